/- The law's arguments, opened: a slice of bytes, a slice of structs. No Go text is walked here. -/
import Derived.Test.YbulkejpeDoorLm
import Derived.Deep.Slices
import Derived.ChangeSame
import Derived.Deep.SlicePairs
namespace Go.Proofs.YbulkejpeDoor
open Go Go.ChangeShapes Go.WideShapes Go.ChangeAt Go.RowKit Go.Deep

theorem cells34 : Ybad.prog.cellsOf 34 = 5 := by kernel_rfl
theorem cells5 : Ybad.prog.cellsOf 5 = 1 := by kernel_rfl

section
variable {H : Type} {enc : TypeId × Value → H} {w : World} {base : Nat} {spare : Nat → Bool} {held : Bool}

theorem of_u8 {n : Int} (h : (Lit.int .u8 n).wf = true) : ∃ k : Nat, n = (k : Int) ∧ k < 256 := by
  have h0 : IntKind.u8.min ≤ n ∧ n ≤ IntKind.u8.max := by simpa [Lit.wf] using h
  have h1 : (0 : Int) ≤ n ∧ n ≤ 255 := h0
  exact ⟨n.toNat, by omega, by omega⟩
theorem of_u16 {n : Int} (h : (Lit.int .u16 n).wf = true) : ∃ k : Nat, n = (k : Int) ∧ k < 65536 := by
  have h0 : IntKind.u16.min ≤ n ∧ n ≤ IntKind.u16.max := by simpa [Lit.wf] using h
  have h1 : (0 : Int) ≤ n ∧ n ≤ 65535 := h0
  exact ⟨n.toNat, by omega, by omega⟩
theorem spot_none {a : Addr} {n : Nat} {cs : List Value} (hn : 0 < n) (h : w.cells? base (a.add 0) n = some cs) : a.spot = none := by
  obtain ⟨_, hl, hcell⟩ := World.cells?_some h
  have e0 := hcell 0 hn
  rw [add_add, List.getElem?_eq_getElem (by omega)] at e0
  simpa [Addr.add] using World.cell?_spot e0

set_option maxRecDepth 100000 in
theorem open_bytes {fuel : Nat} {cs : List Value} {x : DataW H × List MemPlace} (h : DataW.trod enc Ybad.prog w base spare held fuel 22 cs = some x) :
    ∃ MA nm mcap xs, cs = [.slice MA nm mcap] ∧ InL w MA nm xs := by
  rcases open_slice Ybad.underlying22 h with ⟨h0, _⟩ | ⟨a, len, cap, m, n, D, Pl, rfl, hb, hl, hm, hmm, rfl, hx⟩
  · exact ⟨none, 0, 0, fun _ => 0, h0, fun i hi => by omega⟩
  have hlm : len ≤ m := by rw [hmm]; split <;> omega
  have hspot : 0 < len → a.spot = none := fun h0 => by
    obtain ⟨cs', h1, _⟩ := hx 0 (by omega)
    rw [cells5] at h1
    exact spot_none (n := 1) (by omega) (by simpa using h1)
  have each : ∀ i, i < len → ∃ q : Nat, ∃ b off, (some a : Option Addr) = some ⟨b, off, none⟩ ∧ b < w.heap.size ∧ q < 256 ∧ w.cell? ⟨b, off + i, none⟩ = some (.int .u8 (q : Int)) := by
    intro i hi
    obtain ⟨cs', h1, h2⟩ := hx i (by omega)
    rw [cells5] at h1
    obtain ⟨_, hlen, hcell⟩ := World.cells?_some h1
    match cs', hlen with
    | [v0], _ =>
      have e0 := hcell 0 (by omega)
      rw [add_add] at e0
      obtain ⟨n1, c1, _, w1⟩ := DataW.trod_int Ybad.underlying5 h2
      simp only [List.cons.injEq, and_true] at c1
      subst c1
      obtain ⟨k1, rfl, b1⟩ := of_u8 w1
      simp at e0
      obtain ⟨b, off, spot⟩ := a
      have hsp : spot = none := hspot (by omega)
      subst hsp
      rw [add_plain] at e0
      exact ⟨k1, b, off, rfl, World.block_lt_of_cell? w _ e0, b1, e0⟩
  obtain ⟨xs, hxs⟩ : ∃ xs : Nat → Nat, ∀ i, i < len → _ := choose_lt each
  exact ⟨some a, len, cap, xs, rfl, hxs⟩

set_option maxRecDepth 100000 in
theorem open_writes {fuel : Nat} {cs : List Value} {x : DataW H × List MemPlace} (h : DataW.trod enc Ybad.prog w base spare held fuel 24 cs = some x) :
    ∃ MA nm mcap f, cs = [.slice MA nm mcap] ∧ InW w MA nm f := by
  rcases open_slice Ybad.underlying24 h with ⟨h0, _⟩ | ⟨a, len, cap, m, n, D, Pl, rfl, hb, hl, hm, hmm, rfl, hx⟩
  · exact ⟨none, 0, 0, fun _ => ⟨0, 0, 0, 0, 0⟩, h0, fun i hi => by omega⟩
  have hlm : len ≤ m := by rw [hmm]; split <;> omega
  have hspot : 0 < len → a.spot = none := fun h0 => by
    obtain ⟨cs', h1, _⟩ := hx 0 (by omega)
    rw [cells34] at h1
    exact spot_none (n := 5) (by omega) (by simpa using h1)
  have each : ∀ i, i < len → ∃ q : Wi, ∃ b off, (some a : Option Addr) = some ⟨b, off, none⟩ ∧ b < w.heap.size ∧ q.Ok ∧ w.cell? ⟨b, off + i * 5, none⟩ = some (.int .u8 (q.ep : Int)) ∧ w.cell? ⟨b, off + i * 5 + 1, none⟩ = some (.int .u8 (q.ck : Int)) ∧ w.cell? ⟨b, off + i * 5 + 2, none⟩ = some (.int .u8 (q.key : Int)) ∧ w.cell? ⟨b, off + i * 5 + 3, none⟩ = some (.int .u8 (q.val : Int)) ∧ w.cell? ⟨b, off + i * 5 + 4, none⟩ = some (.int .u8 (q.st : Int)) := by
    intro i hi
    obtain ⟨cs', h1, h2⟩ := hx i (by omega)
    rw [cells34] at h1
    obtain ⟨_, hlen, hcell⟩ := World.cells?_some h1
    obtain ⟨xs, k, hk, hxy, _, hxl, hf⟩ := DataW.trod_struct Ybad.underlying34 h2
    match xs, hxl, cs', hlen with
    | [y0, y1, y2, y3, y4], _, [v0, v1, v2, v3, v4], _ =>
      have g0 := hf 0 _ rfl
      have g1 := hf 1 _ rfl
      have g2 := hf 2 _ rfl
      have g3 := hf 3 _ rfl
      have g4 := hf 4 _ rfl
      simp [cells5] at g0 g1 g2 g3 g4
      have e0 := hcell 0 (by omega)
      have e1 := hcell 1 (by omega)
      have e2 := hcell 2 (by omega)
      have e3 := hcell 3 (by omega)
      have e4 := hcell 4 (by omega)
      rw [add_add] at e0 e1 e2 e3 e4
      obtain ⟨n0, c0, rfl, w0⟩ := DataW.trod_int Ybad.underlying5 g0
      obtain ⟨n1, c1, rfl, w1⟩ := DataW.trod_int Ybad.underlying5 g1
      obtain ⟨n2, c2, rfl, w2⟩ := DataW.trod_int Ybad.underlying5 g2
      obtain ⟨n3, c3, rfl, w3⟩ := DataW.trod_int Ybad.underlying5 g3
      obtain ⟨n4, c4, rfl, w4⟩ := DataW.trod_int Ybad.underlying5 g4
      simp only [List.cons.injEq, and_true] at c0 c1 c2 c3 c4
      subst c0 c1 c2 c3 c4
      obtain ⟨k0, rfl, b0⟩ := of_u8 w0
      obtain ⟨k1, rfl, b1⟩ := of_u8 w1
      obtain ⟨k2, rfl, b2⟩ := of_u8 w2
      obtain ⟨k3, rfl, b3⟩ := of_u8 w3
      obtain ⟨k4, rfl, b4⟩ := of_u8 w4
      simp at e0 e1 e2 e3 e4
      obtain ⟨b, off, spot⟩ := a
      have hsp : spot = none := hspot (by omega)
      subst hsp
      rw [add_plain] at e0 e1 e2 e3 e4
      exact ⟨⟨k0, k1, k2, k3, k4⟩, b, off, rfl, World.block_lt_of_cell? w _ e0, ⟨b0, b1, b2, b3, b4⟩, e0, e1, e2, e3, e4⟩
  obtain ⟨f, hf⟩ : ∃ f : Nat → Wi, ∀ i, i < len → _ := by
    haveI : Inhabited Wi := ⟨⟨0, 0, 0, 0, 0⟩⟩
    exact choose_lt each
  exact ⟨some a, len, cap, f, rfl, hf⟩
end
end Go.Proofs.YbulkejpeDoor
