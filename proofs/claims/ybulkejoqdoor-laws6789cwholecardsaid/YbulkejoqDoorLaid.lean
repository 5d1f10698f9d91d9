/- From the row's condition ('twilights' reads as listed) to what the walks ask. -/
import Derived.Test.YbulkejoqDoorLaw
import Derived.Test.YbulkejoqDoorPost
import Derived.Test.YbulkejoqDoorRows
import Derived.LaidMore
import Derived.Deep.Slices
import Derived.Stop.Joined
namespace Go.Proofs.YbulkejoqDoor
open Go Go.ChangeShapes Go.WideShapes Go.ChangeAt Go.RowKit Go.Deep

/-- The table's name, as the specification lists it. -/
def twN : String := Rows.lawS6789CWholeSpec.vars.headD "none"
theorem gTw : Ybad.prog.globalNamed twN = some 1 := by kernel_rfl
theorem tTw : (Ybad.prog.globals[1]?).map (·.type) = some 52 := by kernel_rfl
theorem cells53 : Ybad.prog.cellsOf 53 = 2 := by kernel_rfl
theorem cells42 : Ybad.prog.cellsOf 42 = 1 := by kernel_rfl
theorem cells22 : Ybad.prog.cellsOf 22 = 1 := by kernel_rfl

theorem trod_float {H : Type} {enc : TypeId × Value → H} {P : Program} {w : World} {base : Nat} {sp : Nat → Bool} {hd : Bool} {fuel : Nat} {t : TypeId} {k : FloatKind} {v : Value} {x : DataW H × List MemPlace}
    (ht : P.underlying t = some (.float k)) (h : DataW.trod enc P w base sp hd fuel t [v] = some x) : ∃ b : Nat, v = .float k b ∧ x = (.lit (.float k b), []) := by
  cases fuel with
  | zero => simp [DataW.trod] at h
  | succ n =>
    unfold DataW.trod at h
    rw [ht] at h
    cases v <;> simp at h
    obtain ⟨⟨rfl, _⟩, rfl⟩ := h
    exact ⟨_, rfl, rfl⟩

theorem two_of {α : Type} {l : List α} (h : l.length = 2) : ∃ a b, l = [a, b] := by
  match l, h with
  | [a, b], _ => exact ⟨a, b, rfl⟩

theorem pair_of {base : Nat} {W : World} {a : Addr} {n : Nat} {sp : Nat → Bool} {hd : Bool} {d : DataW Unit} {p : List MemPlace} {cs' : List Value} {bs : List UInt8} {fl : Nat}
    (hc : W.cells? base a 2 = some cs') (hr : DataW.trod (fun _ => ()) Ybad.prog W base sp hd n 53 cs' = some (d, p)) (hd : d = .agg [.lit (.string bs), .lit (.float .f64 fl)]) :
    W.cell? a = some (.string ⟨bs.toArray⟩) ∧ W.cell? (a.add 1) = some (.float .f64 fl) := by
  obtain ⟨hb, hl, hcell⟩ := World.cells?_some hc
  obtain ⟨y0, y1, m, hx, _, h0, h1⟩ := trod_struct2 Ybad.underlying53 hr
  obtain ⟨c0, c1, rfl⟩ := two_of hl
  · simp only [cells42, cells22] at h0 h1
    obtain ⟨s, e0, rfl, _⟩ := DataW.trod_string Ybad.underlying42 h0
    obtain ⟨f, e1, rfl⟩ := trod_float (v := c1) Ybad.underlying22 h1
    simp at e0 e1
    subst e0 e1
    simp only [Prod.mk.injEq] at hx
    rw [hd] at hx
    simp only [DataW.agg.injEq, List.cons.injEq, DataW.lit.injEq, Lit.string.injEq, Lit.float.injEq] at hx
    obtain ⟨⟨rfl, ⟨_, rfl⟩, _⟩, _⟩ := hx
    have k0 := hcell 0 (by omega)
    have k1 := hcell 1 (by omega)
    simp [Addr.add] at k0
    exact ⟨by simpa using k0, by simpa using k1⟩

theorem of_laid {W : World} (h : laidMetH Ybad.prog Rows.lawS6789CWholeRow.laid W) : ∃ b off cap, TwAt W b off cap := by
  rw [MakeChecks.laidMetH_plain _ _ _ (by kernel_rfl)] at h
  obtain ⟨ps, ⟨g0, t0, cs0, f0, p0, q0, hg0, ht0, hv0, hd0, _⟩, _, _⟩ := h
  obtain rfl := Option.some.inj (gTw.symm.trans hg0)
  obtain rfl := Option.some.inj (tTw.symm.trans ht0)
  rcases open_slice Ybad.underlying52 hd0 with ⟨_, hx⟩ | ⟨a, len, cap, m, n, D, Pl, hcs, hb, hlc, hcm, hm, hx, hel⟩
  · simp [Rows.laid_example_com_almucantar_almucantar_twilights] at hx
  rw [cells53] at hel
  simp only [Prod.mk.injEq, Rows.laid_example_com_almucantar_almucantar_twilights, DataW.slice.injEq] at hx
  obtain ⟨⟨hD, hS⟩, _⟩ := hx
  have hlen : len = 3 := by
    have := congrArg List.length hD
    simpa using this.symm
  subst hlen
  have hm3 : 3 ≤ m := by
    have := hm
    split at this <;> omega
  have e0 : D 0 = _ := (List.cons.inj hD).1.symm
  have e1 : D 1 = _ := (List.cons.inj (List.cons.inj hD).2).1.symm
  have e2 : D 2 = _ := (List.cons.inj (List.cons.inj (List.cons.inj hD).2).2).1.symm
  obtain ⟨c0, k0, r0⟩ := hel 0 (by omega)
  obtain ⟨c1, k1, r1⟩ := hel 1 (by omega)
  obtain ⟨c2, k2, r2⟩ := hel 2 (by omega)
  have j0 := pair_of k0 r0 e0
  have j1 := pair_of k1 r1 e1
  have j2 := pair_of k2 r2 e2
  obtain ⟨b, off, spot⟩ := a
  have hspot : spot = none := by simpa [Addr.add] using World.cell?_spot j0.1
  subst hspot
  have hcell : W.cell? ⟨1, 0, none⟩ = some (.slice (some ⟨b, off, none⟩) 3 cap) := by
    have := World.var?_cell hg0 hv0 0
    rw [Array.eq_one_of_toList hcs] at this
    simpa using this
  refine ⟨b, off, cap, ⟨?_, hcell, ?_, ?_, ?_, ?_, ?_, ?_⟩⟩
  · exact World.block_lt_of_cell? W _ j0.1
  · simpa [Addr.add] using j0.1
  · simpa [Addr.add] using j0.2
  · simpa [Addr.add] using j1.1
  · simpa [Addr.add] using j1.2
  · simpa [Addr.add] using j2.1
  · simpa [Addr.add] using j2.2
end Go.Proofs.YbulkejoqDoor
