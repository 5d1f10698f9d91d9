/- Leave (5). -/
import Derived.Test.YbulkejocPlain
import Derived.Test.YbulkejocStep
namespace Go.Proofs.Ybulkejoc
open Go.ChangeShapes Go.WideShapes Go.ChangeAt Go.RowKit

/-- The node has left already. -/
theorem leave_left (w : World) (nb : Nat) (now : Int) {u u' : Value} (h1 : w.cell? ⟨nb, 27, none⟩ = some u) (h2 : w.cell? ⟨nb, 28, none⟩ = some u') (h3 : w.cell? ⟨nb, 13, none⟩ = some (.int .u8 3)) (f1 : w.frozen? ⟨nb, 27, none⟩ = false) (f2 : w.frozen? ⟨nb, 28, none⟩ = false) :
    Calls Yba.prog 5 #[.pointer (some ⟨nb, 0, none⟩), .int .i64 now] w fun e w' => e = .returned (.slice none 0 0) ∧ w' = ((w.setCell ⟨nb, 27, none⟩ (.int .i64 now)).setCell ⟨nb, 28, none⟩ (.slice none 0 0)).setCell ⟨nb, 28, none⟩ (.slice none 0 0) := by
  have k2 : (w.setCell ⟨nb, 27, none⟩ (.int .i64 now)).cell? ⟨nb, 28, none⟩ = some u' := by rw [(Fr.setCell_one w nb 27 _).cell nb 28 (World.block_lt_of_cell? w _ h2) (by rintro ⟨_, e⟩; omega)]; exact h2
  have k3 : ((w.setCell ⟨nb, 27, none⟩ (.int .i64 now)).setCell ⟨nb, 28, none⟩ (.slice none 0 0)).cell? ⟨nb, 28, none⟩ = some (.slice none 0 0) := World.cell?_setCell_same _ _ _ k2
  have k4 : ((w.setCell ⟨nb, 27, none⟩ (.int .i64 now)).setCell ⟨nb, 28, none⟩ (.slice none 0 0)).frozen? ⟨nb, 28, none⟩ = false := by simpa using f2
  have k5 : ((w.setCell ⟨nb, 27, none⟩ (.int .i64 now)).setCell ⟨nb, 28, none⟩ (.slice none 0 0)).cell? ⟨nb, 13, none⟩ = some (.int .u8 3) := by
    have hlt := World.block_lt_of_cell? w _ h2
    rw [(Fr.setCell_one _ nb 28 _).cell nb 13 (by simpa using hlt) (by rintro ⟨_, e⟩; omega), (Fr.setCell_one w nb 27 _).cell nb 13 hlt (by rintro ⟨_, e⟩; omega)]
    exact h3
  go_enter Yba.func5, Yba.ntmps5
  go_wp2_with (first | (go_at_call 10; refine (begin_any _ nb now h1 h2 f1 f2).mono ?_; rintro e w1 ⟨rfl, rfl⟩) | (go_at_call 13; refine (end_any _ nb k3 k4).mono ?_; rintro e w2 ⟨rfl, rfl⟩))
  go_ret
  exact ⟨rfl, rfl⟩

/-- What Leave finds. me: the node's record, with the state that it takes. -/
structure LvIn (w : World) (nb lg mp : Nat) (l : List (ByteArray × Nat)) (me : Mb) (st : Nat) (g : Nat) (d0 : List Nat) (mem : Nat → Mb) (key : Nat → Int) (emem : Nat → Mb) (va : Value) (use : Bool) : Prop where
  s0 : w.cell? ⟨nb, 11, none⟩ = some (.string me.addr)
  s1 : w.cell? ⟨nb, 12, none⟩ = some (.int .u64 me.tok)
  s2 : w.cell? ⟨nb, 13, none⟩ = some (.int .u8 st)
  s3 : w.cell? ⟨nb, 14, none⟩ = some (.int .u64 me.inc)
  ok : me.Ok
  left : me.st = 3
  here : st ≠ 3
  map : w.cell? ⟨nb, 15, none⟩ = some (.map (some mp))
  obj : w.heap[mp]? = some (.map (ents l) l.length)
  keys : (l.map (·.1)).Nodup
  few : l.length ≤ 512
  addrs : w.cell? ⟨nb, 16, none⟩ = some va
  addr : w.ownsRow 0 9 1 va l.length (l.map fun x => .string x.1)
  entry : ∀ x ∈ l, w.cell? ⟨x.2, 2, none⟩ = some (.int .u8 (emem x.2).st)
  rum : ∀ k ∈ d0, RumAt w k (mem k) (key k)
  told : ∀ k ∈ d0, key k ≤ 15
  nodup : d0.Nodup
  rfew : d0.length ≤ 512
  row : ∃ rv, w.cell? ⟨nb, 24, none⟩ = some rv ∧ RowIs w rv nb g d0
  ch : w.cell? ⟨nb, 8, none⟩ = some (chF use lg)
  log : w.cell? ⟨lg, 0, none⟩ = some (.slice none 0 0)
  flog : w.frozen? ⟨lg, 0, none⟩ = false
  probe : (w.cell? ⟨nb, 19, none⟩).isSome = true
  now : (w.cell? ⟨nb, 27, none⟩).isSome = true
  out : (w.cell? ⟨nb, 28, none⟩).isSome = true
  fz : ∀ o, w.frozen? ⟨nb, o, none⟩ = false
  ng : nb ≠ g
  gd : g ∉ d0
  gmp : mp ≠ g
  glt : g < w.heap.size
  nd : nb ∉ d0
  ln : lg ≠ nb
  lg' : lg ≠ g
  ld : lg ∉ d0
  va' : ∀ b, va.ownBlock = some b → b ≠ nb ∧ b ≠ g ∧ b ∉ d0 ∧ b ≠ lg
  en' : ∀ x ∈ l, x.2 ≠ nb ∧ x.2 ≠ g ∧ x.2 ∉ d0 ∧ x.2 ≠ lg

/-- The cells that Leave may write. -/
def LeaveC (nb lg g : Nat) (d0 : List Nat) (b o : Nat) : Prop := (b = nb ∧ (o = 13 ∨ o = 19 ∨ o = 24 ∨ o = 27 ∨ o = 28)) ∨ (b = lg ∧ o = 0) ∨ b = g ∨ (b ∈ d0 ∧ o = 4)

structure LvOut (w : World) (nb lg g : Nat) (me : Mb) (d0 : List Nat) (mem : Nat → Mb) (use : Bool) (now : Int) (s : Ls) (vo : Value) (w' : World) : Prop where
  out : ∃ vs : List Value, vs.length = s.out.length ∧ w'.ownsRow w.heap.size 67 9 vo s.out.length (ocells me s.out vs) ∧ (∀ i (hi : i < s.out.length) (hv : i < vs.length), w'.ownsRow w.heap.size 29 4 vs[i] s.out[i].2.length (mcells s.out[i].2)) ∧ (s.out = [] → vo = .slice none 0 0)
  row : ∃ rv, w'.cell? ⟨nb, 24, none⟩ = some rv ∧ RowIs w' rv nb g s.d
  rum : ∀ k ∈ s.d, RumAt w' k (mem k) (s.key k)
  sub : ∀ k ∈ s.d, k ∈ d0
  log : ∃ v, w'.cell? ⟨lg, 0, none⟩ = some v ∧ w'.ownsRow w.heap.size 29 4 v (if use then 1 else 0) (if use then me.cells else [])
  now : w'.cell? ⟨nb, 27, none⟩ = some (.int .i64 now)
  outs : w'.cell? ⟨nb, 28, none⟩ = some (.slice none 0 0)
  state : w'.cell? ⟨nb, 13, none⟩ = some (.int .u8 3)
  probe : w'.cell? ⟨nb, 19, none⟩ = some (.pointer none)
  fr : Fr (LeaveC nb lg g d0) w w'

/-- A slice of strings. -/
theorem strs_form {w : World} {B : Nat} {va : Value} {l : List (ByteArray × Nat)} (h : w.ownsRow B 9 1 va l.length (l.map fun x => .string x.1)) : ∃ A cap, va = .slice A l.length cap ∧ ∀ j x, l[j]? = some x → ∃ ab, A = some ⟨ab, 0, none⟩ ∧ va.ownBlock = some ab ∧ ab < w.heap.size ∧ w.cell? ⟨ab, j, none⟩ = some (.string x.1) := by
  rcases h.2 with ⟨rfl, h0⟩ | ⟨g, cap, cur, rfl, _, hg, _⟩
  · refine ⟨none, 0, by rw [h0], fun j x hj => ?_⟩
    rw [List.eq_nil_of_length_eq_zero h0] at hj
    simp at hj
  · refine ⟨_, cap, rfl, fun j x hj => ⟨g, rfl, rfl, lt_of_heap hg, ?_⟩⟩
    have hlt := (List.getElem?_eq_some_iff.1 hj).1
    rw [World.ownsRow.cellAt h j (by omega), List.getElem?_map, hj]
    rfl

set_option maxRecDepth 100000 in
set_option maxHeartbeats 4000000 in
theorem leave_any (w : World) (nb lg mp : Nat) (l : List (ByteArray × Nat)) (me : Mb) (st : Nat) (g : Nat) (d0 : List Nat) (mem : Nat → Mb) (key : Nat → Int) (emem : Nat → Mb) (va : Value) (use : Bool) (now : Int) (h : LvIn w nb lg mp l me st g d0 mem key emem va use) :
    Calls Yba.prog 5 #[.pointer (some ⟨nb, 0, none⟩), .int .i64 now] w fun e w' => ∃ vo, e = .returned vo ∧ LvOut w nb lg g me d0 mem use now (Ls.run mem me l.length emem ⟨d0, key, []⟩ l) vo w' := by
  obtain ⟨u27, h27⟩ := Option.isSome_iff_exists.1 h.now
  obtain ⟨u28, h28⟩ := Option.isSome_iff_exists.1 h.out
  obtain ⟨u19, h19⟩ := Option.isSome_iff_exists.1 h.probe
  have hnlt := World.block_lt_of_cell? w _ h27
  have hst := h.here
  have hst' : ¬ (st : Int) = 3 := by omega
  have h11 := h.s0
  have h12 := h.s1
  have h13 := h.s2
  have h14 := h.s3
  have f13 := h.fz 13
  have f19 := h.fz 19
  have hFX : Fr (fun b o => b = nb ∧ (o = 13 ∨ o = 19 ∨ o = 27 ∨ o = 28)) w ((((w.setCell ⟨nb, 27, none⟩ (.int .i64 now)).setCell ⟨nb, 28, none⟩ (.slice none 0 0)).setCell ⟨nb, 13, none⟩ (.int .u8 3)).setCell ⟨nb, 19, none⟩ (.pointer none)) := by
    refine Fr.setCell (Fr.setCell (Fr.setCell (Fr.setCell (Fr.refl _ _) ?_ _) ?_ _) ?_ _) ?_ _ <;> (intro _; exact ⟨rfl, by omega⟩)
  have hch := changed_any ((((w.setCell ⟨nb, 27, none⟩ (.int .i64 now)).setCell ⟨nb, 28, none⟩ (.slice none 0 0)).setCell ⟨nb, 13, none⟩ (.int .u8 3)).setCell ⟨nb, 19, none⟩ (.pointer none)) nb lg me use ((hFX.cell nb 11 hnlt (by rintro ⟨_, e⟩; omega)).trans h.s0) ((hFX.cell nb 8 hnlt (by rintro ⟨_, e⟩; omega)).trans h.ch) ((hFX.cell lg 0 (World.block_lt_of_cell? w _ h.log) (by rintro ⟨e, _⟩; exact h.ln e)).trans h.log) ((hFX.frozen lg 0 (World.block_lt_of_cell? w _ h.log)).trans h.flog)
  rw [h.left] at hch
  obtain ⟨A, acap, hva, HA⟩ := strs_form h.addr
  have HA' : Hid (∀ j x, l[j]? = some x → ∃ ab, A = some ⟨ab, 0, none⟩ ∧ va.ownBlock = some ab ∧ ab < w.heap.size ∧ w.cell? ⟨ab, j, none⟩ = some (.string x.1)) := HA
  clear HA
  have HV : Hid (va = .slice A l.length acap) := hva
  have haddr := h.addrs
  rw [hva] at haddr
  clear hva
  obtain ⟨n, hn⟩ : ∃ n, l.length = n := ⟨_, rfl⟩
  have hn512 : n ≤ 512 := by have := h.few; omega
  rw [hn] at haddr
  have HN : Hid (l.length = n) := hn
  clear hn
  go_enter Yba.func5, Yba.ntmps5
  go_wp2_with (first | (go_at_call 10; refine (begin_any _ nb now h27 h28 (h.fz 27) (h.fz 28)).mono ?_; rintro e w1 ⟨rfl, rfl⟩) | (go_at_call 11; refine hch.mono ?_; rintro e w2 ⟨rfl, hF2, vl, hl2, hlown⟩; have a16 := (hF2.cell nb 16 (by have := hFX.size; omega) (by rintro ⟨e, _⟩; exact h.ln e.symm)).trans ((hFX.cell nb 16 hnlt (by rintro ⟨_, e⟩; omega)).trans haddr)))
  have hFw : Fr (fun b o => (b = nb ∧ (o = 13 ∨ o = 19 ∨ o = 27 ∨ o = 28)) ∨ (b = lg ∧ o = 0)) w w2 := (hFX.mono (fun _ _ h => Or.inl h)).trans hF2 (fun _ _ _ h => Or.inr h)
  have hsz2 := hFw.size
  have hlt2 : nb < w2.heap.size := by omega
  have hllt := World.block_lt_of_cell? w _ h.log
  have nC : ∀ o, o ≠ 13 → o ≠ 19 → o ≠ 27 → o ≠ 28 → ¬ ((nb = nb ∧ (o = 13 ∨ o = 19 ∨ o = 27 ∨ o = 28)) ∨ (nb = lg ∧ o = 0)) := by
    rintro o h1 h2 h3 h4 (⟨_, e⟩ | ⟨e, _⟩)
    · omega
    · exact h.ln e.symm
  have bC : ∀ b, b ≠ nb → b ≠ lg → ∀ o, ¬ ((b = nb ∧ (o = 13 ∨ o = 19 ∨ o = 27 ∨ o = 28)) ∨ (b = lg ∧ o = 0)) := by
    rintro b h1 h2 o (⟨e, _⟩ | ⟨e, _⟩)
    · exact h1 e
    · exact h2 e
  have xl : ∀ (b o o' : Nat) (v : Value) (W : World), W.heap.size = w.heap.size → b < w.heap.size → o ≠ o' → (W.setCell ⟨nb, o', none⟩ v).cell? ⟨b, o, none⟩ = W.cell? ⟨b, o, none⟩ := fun b o o' v W hW hb ho => (Fr.setCell_one W nb o' v).cell b o (by omega) (by rintro ⟨_, e⟩; exact ho e)
  have x2 : ∀ o, nb < w.heap.size → w2.cell? ⟨nb, o, none⟩ = _ := fun o hb => hF2.cell nb o (by simpa using hb) (by rintro ⟨e, _⟩; exact h.ln e.symm)
  have c27 : w2.cell? ⟨nb, 27, none⟩ = some (.int .i64 now) := by
    rw [x2 27 hnlt, xl nb 27 19 _ _ (by simp) hnlt (by omega), xl nb 27 13 _ _ (by simp) hnlt (by omega), xl nb 27 28 _ _ (by simp) hnlt (by omega)]
    exact World.cell?_setCell_same _ _ _ h27
  have c28 : w2.cell? ⟨nb, 28, none⟩ = some (.slice none 0 0) := by
    rw [x2 28 hnlt, xl nb 28 19 _ _ (by simp) hnlt (by omega), xl nb 28 13 _ _ (by simp) hnlt (by omega)]
    exact World.cell?_setCell_same (u := u28) _ _ _ (by rw [xl nb 28 27 _ _ rfl hnlt (by omega)]; exact h28)
  have c13 : w2.cell? ⟨nb, 13, none⟩ = some (.int .u8 3) := by
    rw [x2 13 hnlt, xl nb 13 19 _ _ (by simp) hnlt (by omega)]
    exact World.cell?_setCell_same (u := .int .u8 st) _ _ _ (by rw [xl nb 13 28 _ _ (by simp) hnlt (by omega), xl nb 13 27 _ _ rfl hnlt (by omega)]; exact h13)
  have c19 : w2.cell? ⟨nb, 19, none⟩ = some (.pointer none) := by
    rw [x2 19 hnlt]
    exact World.cell?_setCell_same (u := u19) _ _ _ (by rw [xl nb 19 13 _ _ (by simp) hnlt (by omega), xl nb 19 28 _ _ (by simp) hnlt (by omega), xl nb 19 27 _ _ rfl hnlt (by omega)]; exact h19)
  have hmpn : mp ≠ nb := cell_not_map h.obj h.s0
  have hmpl : mp ≠ lg := cell_not_map h.obj h.log
  have hmlt := lt_of_heap h.obj
  have hrum2 : ∀ k ∈ d0, RumAt w2 k (mem k) (key k) := by
    intro k hk
    have r := h.rum k hk
    have hc := bC k (fun e => h.nd (e ▸ hk)) (fun e => h.ld (e ▸ hk))
    exact ⟨by have := r.lt; omega, (hFw.cell k 0 r.lt (hc 0)).trans r.a, (hFw.cell k 1 r.lt (hc 1)).trans r.t, (hFw.cell k 2 r.lt (hc 2)).trans r.s', (hFw.cell k 3 r.lt (hc 3)).trans r.i, (hFw.cell k 4 r.lt (hc 4)).trans r.sent, (hFw.frozen k 4 r.lt).trans r.fz, r.ok, r.lo, r.hi⟩
  have hnd2 : NdIn w2 nb mp (ents l) l.length me d0 mem key := by
    refine ⟨(hFw.cell nb 11 hnlt (nC 11 (by omega) (by omega) (by omega) (by omega))).trans h.s0, (hFw.cell nb 12 hnlt (nC 12 (by omega) (by omega) (by omega) (by omega))).trans h.s1, by rw [h.left]; exact c13, (hFw.cell nb 14 hnlt (nC 14 (by omega) (by omega) (by omega) (by omega))).trans h.s3, h.ok, (hFw.cell nb 15 hnlt (nC 15 (by omega) (by omega) (by omega) (by omega))).trans h.map, (hFw.block mp hmlt (bC mp hmpn hmpl)).trans h.obj, by rw [ents_size]; have := h.few; omega, hrum2, h.nodup, h.nd, (hFw.frozen nb 24 hnlt).trans (h.fz 24), (hFw.frozen nb 28 hnlt).trans (h.fz 28), hlt2⟩
  have hL0 : LvAt w2 nb mp (ents l) l.length me g d0 mem 0 ⟨d0, key, []⟩ w2 := by
    obtain ⟨rv, hr1, hr2⟩ := h.row
    exact ⟨hnd2, fun _ hk => hk, Nat.le_refl _, ⟨rv, (hFw.cell nb 24 hnlt (nC 24 (by omega) (by omega) (by omega) (by omega))).trans hr1, hr2.block (Or.inl (hFw.block g h.glt (bC g (Ne.symm h.ng) (Ne.symm h.lg'))))⟩, ⟨.slice none 0 0, [], c28, rfl, World.ownsRow_nil _ _ _ _, fun i hi => by simp at hi, fun _ => rfl⟩, fun k hk => by have := h.told k hk; show key k ≤ 15 + ((0 : Nat) : Int); omega, Nat.le_refl _, Fr.refl _ _⟩
  have hgB : g < w2.heap.size := by have := h.glt; omega
  have hdB : ∀ k ∈ d0, k < w2.heap.size := fun k hk => (hrum2 k hk).lt
  clear x2 xl hF2 hFX hch h27 h28 h19 h11 h12 h13 h14 f13 f19 hst hst' hnd2
  have HX : Hid (w2.cell? ⟨nb, 27, none⟩ = some (.int .i64 now) ∧ w2.cell? ⟨nb, 13, none⟩ = some (.int .u8 3) ∧ w2.cell? ⟨nb, 19, none⟩ = some (.pointer none)) := ⟨c27, c13, c19⟩
  clear c27 c13 c19 c28
  have HL : Hid (w2.cell? ⟨lg, 0, none⟩ = some vl ∧ w2.ownsRow w.heap.size 29 4 vl (if use then 1 else 0) (if use then me.cells else [])) := ⟨hl2, by simpa using hlown⟩
  clear hl2 hlown
  go_loopw [6, 34] (fun _ vi wr => ∃ j : Nat, j ≤ n ∧ vi = .int .i64 (j : Int) ∧ LvAt w2 nb mp (ents l) l.length me g d0 mem j (Ls.run mem me l.length emem ⟨d0, key, []⟩ (l.take j)) wr) (fun _ vi _ => n - (intOf vi).toNat)
  case atStart => exact ⟨0, Nat.zero_le _, rfl, hL0⟩
  case round =>
    obtain ⟨j, hj, rfl, hL⟩ := hrel
    by_cases hlt' : j < n
    · have hltI : (j : Int) < (n : Int) := by omega
      obtain ⟨a, b, Hx⟩ : ∃ a b, Hid (l[j]? = some (a, b)) := ⟨(l[j]'(by rw [HN.out]; exact hlt')).1, (l[j]'(by rw [HN.out]; exact hlt')).2, by show _ = _; exact List.getElem?_eq_getElem _⟩
      obtain ⟨ab, rfl, hab, habl, hcj⟩ := HA'.out j (a, b) Hx.out
      have hxm : (a, b) ∈ l := List.mem_of_getElem? Hx.out
      have hva := h.va' ab hab
      have hen : b ≠ nb ∧ b ≠ g ∧ b ∉ d0 ∧ b ≠ lg := h.en' (a, b) hxm
      have hent : w.cell? ⟨b, 2, none⟩ = some (.int .u8 (emem b).st) := h.entry (a, b) hxm
      have hxlt : b < w.heap.size := World.block_lt_of_cell? w _ hent
      have lC : ∀ b, b ≠ nb → b ≠ g → b ∉ d0 → ∀ o, ¬ LvC nb g d0 b o := by
        rintro b h1 h2 h3 o (⟨e, _⟩ | e | ⟨e, _⟩)
        · exact h1 e
        · exact h2 e
        · exact h3 e
      have cj : wr.cell? ⟨ab, j, none⟩ = some (.string a) := (hL.fr.cell ab j (by omega) (lC ab hva.1 hva.2.1 hva.2.2.1 j)).trans ((hFw.cell ab j habl (bC ab hva.1 hva.2.2.2 j)).trans hcj)
      have ce : wr.cell? ⟨b, 2, none⟩ = some (.int .u8 (emem b).st) := (hL.fr.cell b 2 (by omega) (lC b hen.1 hen.2.1 hen.2.2.1 2)).trans ((hFw.cell b 2 hxlt (bC b hen.1 hen.2.2.2 2)).trans hent)
      have clk := lookup_in hL.nd.obj h.keys (a := a) (b := b) hxm false
      simp only [Bool.false_eq_true, if_false] at clk
      have cmp := hL.nd.map
      have Hnext : Hid (Ls.run mem me l.length emem ⟨d0, key, []⟩ (l.take (j + 1)) = if (emem b).st ≤ 1 then (Ls.run mem me l.length emem ⟨d0, key, []⟩ (l.take j)).send mem me l.length a else Ls.run mem me l.length emem ⟨d0, key, []⟩ (l.take j)) := by
        obtain ⟨hjl, hjx⟩ := List.getElem?_eq_some_iff.1 Hx.out
        show _ = _
        rw [List.take_succ_eq_append_getElem hjl, Ls.run_snoc, hjx]
      obtain ⟨s, Hs⟩ : ∃ s, Hid (Ls.run mem me l.length emem ⟨d0, key, []⟩ (l.take j) = s) := ⟨_, rfl⟩
      rw [Hs.out] at hL
      have Hnext' : Hid (Ls.run mem me l.length emem ⟨d0, key, []⟩ (l.take (j + 1)) = if (emem b).st ≤ 1 then s.send mem me l.length a else s) := by
        show _ = _
        rw [Hnext.out, Hs.out]
      obtain ⟨rv, hr1, hr2⟩ := hL.row
      obtain ⟨vo, vs, ho1, ho2, ho3, ho4, ho5⟩ := hL.out
      by_cases hst : (emem b).st ≤ 1
      · have hstI : ((emem b).st : Int) ≤ 1 := by omega
        have hsend := send_any w2.heap.size nb g (fun x => s.d.idxOf x) hL.nd hr1 hr2 (by have := hL.len; have := h.rfew; omega) (idx_rising hL.nd.nodup) h.ng hgB (fun k hk => hdB k (hL.sub k hk)) a vo s.out.length (ocells me s.out vs) ho1 ho3 hL.fr.size (by have := hL.many; omega) hlt2
        have Hsd : Hid (∀ w3, (∃ d1, d1.Perm s.d ∧ d1.Pairwise (Stab.lt s.key fun x => s.d.idxOf x) ∧ SendRes wr w2.heap.size nb g s.d mem s.key me a vo s.out.length (ocells me s.out vs) (packF mem s.key me (ents l).size d1).ns (packF mem s.key me (ents l).size d1).kept w3) → LvAt w2 nb mp (ents l) l.length me g d0 mem (j + 1) (s.send mem me l.length a) w3) := by
          rintro w3 ⟨d1, p1, p2, hS⟩
          have e1 := isort_eq s.key hL.nd.nodup p1 p2
          subst e1
          have := hL.send (by omega) h.ng hlt2 hgB hdB h.gd h.gmp (by omega) ho2 ho3 ho4 hS
          rw [ents_size] at this
          exact this
        clear ho3 ho4 hr2 hr1 Hnext
        go_wp2_with (go_at_call 12; refine hsend.mono ?_; rintro e w3 ⟨rfl, hS⟩)
        go_roundw
        case rel =>
          refine ⟨j + 1, by omega, by go_num, ?_⟩
          rw [Hnext'.out, if_pos hst]
          exact Hsd.out _ hS
        case measure => simp [intOf]; omega
      · have hstI : ¬ ((emem b).st : Int) ≤ 1 := by omega
        clear ho3 ho4 hr2 hr1 Hnext
        go_wp2
        go_roundw
        case rel =>
          refine ⟨j + 1, by omega, by go_num, ?_⟩
          rw [Hnext'.out, if_neg hst]
          exact hL.mono (by omega)
        case measure => simp [intOf]; omega
    · have hltI : ¬ (j : Int) < (n : Int) := by omega
      have hjn : l.take j = l := List.take_of_length_le (by rw [HN.out]; omega)
      rw [hjn] at hL
      clear hjn
      obtain ⟨vo, vs, ho1, ho2, ho3, ho4, ho5⟩ := hL.out
      have hend := end_any wr nb ho1 hL.nd.fo
      have Hout : Hid (LvOut w nb lg g me d0 mem use now (Ls.run mem me l.length emem ⟨d0, key, []⟩ l) vo (wr.setCell ⟨nb, 28, none⟩ (.slice none 0 0))) := by
        have hset : ∀ b, b ≠ nb → (wr.setCell ⟨nb, 28, none⟩ (.slice none 0 0)).heap[b]? = wr.heap[b]? := fun b hb => Below.heap_setCell _ _ _ _ hb
        have hwr := hL.fr.size
        have hnr : nb < wr.heap.size := hL.nd.nlt
        have hcz : ∀ o, o ≠ 28 → (wr.setCell ⟨nb, 28, none⟩ (.slice none 0 0)).cell? ⟨nb, o, none⟩ = wr.cell? ⟨nb, o, none⟩ := fun o ho => (Fr.setCell_one wr nb 28 _).cell nb o hnr (by rintro ⟨_, e⟩; exact ho e)
        have lN : ∀ o, o ≠ 24 → o ≠ 28 → ¬ LvC nb g d0 nb o := by
          rintro o h1 h2 (⟨_, e⟩ | e | ⟨e, _⟩)
          · omega
          · exact h.ng e
          · exact h.nd e
        have lL : ∀ o, ¬ LvC nb g d0 lg o := by
          rintro o (⟨e, _⟩ | e | ⟨e, _⟩)
          · exact h.ln e
          · exact h.lg' e
          · exact h.ld e
        have hown : ∀ {e size n : Nat} {v : Value} {xs : List Value}, wr.ownsRow w2.heap.size e size v n xs → (wr.setCell ⟨nb, 28, none⟩ (.slice none 0 0)).ownsRow w.heap.size e size v n xs := fun ho => ownsRow_base (ownsRow_block ho fun b hb => hset b (by have := (ownsRow_lt ho hb).1; omega)) hsz2
        obtain ⟨x27, x13, x19⟩ := HX.out
        obtain ⟨l1, l2⟩ := HL.out
        obtain ⟨rv, r1, r2⟩ := hL.row
        refine ⟨⟨vs, ho2, hown ho3, fun i hi hv => hown (ho4 i hi hv), ho5⟩, ⟨rv, (hcz 24 (by omega)).trans r1, r2.block (Or.inl (hset g (Ne.symm h.ng)))⟩, fun k hk => ?_, hL.sub, ⟨vl, ?_, ownsRow_block l2 fun b hb => ?_⟩, ?_, World.cell?_setCell_same _ _ _ ho1, ?_, ?_, ?_⟩
        · have r := hL.nd.rum k hk
          have hkn : k ≠ nb := fun e => hL.nd.nd (e ▸ hk)
          have c : ∀ o, (wr.setCell ⟨nb, 28, none⟩ (.slice none 0 0)).cell? ⟨k, o, none⟩ = wr.cell? ⟨k, o, none⟩ := fun o => World.cell?_of_block (a := ⟨k, o, none⟩) (hset k hkn)
          exact ⟨by simpa using r.lt, (c 0).trans r.a, (c 1).trans r.t, (c 2).trans r.s', (c 3).trans r.i, (c 4).trans r.sent, (World.frozen?_of_block (a := ⟨k, 4, none⟩) (hset k hkn)).trans r.fz, r.ok, r.lo, r.hi⟩
        · rw [World.cell?_of_block (a := ⟨lg, 0, none⟩) (hset lg h.ln), hL.fr.cell lg 0 (by have : lg < w.heap.size := hllt; omega) (lL 0)]
          exact l1
        · have hb1 := ownsRow_lt l2 hb
          rw [hset b (by omega)]
          refine hL.fr.block b hb1.2 ?_
          rintro o (⟨e, _⟩ | e | ⟨e, _⟩)
          · omega
          · have := h.glt; omega
          · have := (h.rum b e).lt; omega
        · rw [hcz 27 (by omega), hL.fr.cell nb 27 hlt2 (lN 27 (by omega) (by omega))]; exact x27
        · rw [hcz 13 (by omega), hL.fr.cell nb 13 hlt2 (lN 13 (by omega) (by omega))]; exact x13
        · rw [hcz 19 (by omega), hL.fr.cell nb 19 hlt2 (lN 19 (by omega) (by omega))]; exact x19
        · refine Fr.setCell ((hFw.mono (C' := LeaveC nb lg g d0) ?_).trans hL.fr ?_) (fun _ => Or.inl ⟨rfl, by omega⟩) _
          · rintro b o (⟨e, h'⟩ | h')
            · exact Or.inl ⟨e, by omega⟩
            · exact Or.inr (Or.inl h')
          · rintro b o _ (⟨e, h'⟩ | h')
            · exact Or.inl ⟨e, by omega⟩
            · exact Or.inr (Or.inr h')
      clear ho3 ho4 ho5
      go_wp2_with (go_at_call 13; refine hend.mono ?_; rintro e w3 ⟨rfl, rfl⟩)
      go_ret
      exact ⟨vo, rfl, Hout.out⟩
end Go.Proofs.Ybulkejoc
