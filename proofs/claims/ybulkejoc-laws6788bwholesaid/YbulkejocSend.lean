/- send (12) of a message of news. -/
import Derived.Test.YbulkejocRes
namespace Go.Proofs.Ybulkejoc
open Go.ChangeShapes Go.WideShapes Go.ChangeAt Go.RowKit

theorem info67 : (Yba.prog.info? 67).map (fun i => (i.zero, i.size, i.bytes)) = some (some (.agg #[.string ByteArray.empty, .int .u8 0, .int .u64 0, .string ByteArray.empty, .int .u64 0, .int .u8 0, .int .u64 0, .string ByteArray.empty, .slice none 0 0]), 9, 112) := by kernel_rfl

/-- As 'Fr', but of the marks of the blocks D nothing is said. -/
structure FrD (C : Nat → Nat → Prop) (D : Nat → Prop) (w w' : World) : Prop where
  os : w'.os = w.os
  tape : w'.tape = w.tape
  output : w'.output = w.output
  size : w.heap.size ≤ w'.heap.size
  block : ∀ k, k < w.heap.size → (∀ o, ¬ C k o) → w'.heap[k]? = w.heap[k]?
  cell : ∀ k o, k < w.heap.size → ¬ C k o → w'.cell? ⟨k, o, none⟩ = w.cell? ⟨k, o, none⟩
  frozen : ∀ k o, k < w.heap.size → ¬ D k → w'.frozen? ⟨k, o, none⟩ = w.frozen? ⟨k, o, none⟩
theorem Fr.toD {C : Nat → Nat → Prop} {w w' : World} (h : Fr C w w') (D : Nat → Prop) : FrD C D w w' := ⟨h.os, h.tape, h.output, h.size, h.block, h.cell, fun k o hk _ => h.frozen k o hk⟩
theorem FrD.trans {C C' : Nat → Nat → Prop} {D D' : Nat → Prop} {w w' w'' : World} (h : FrD C D w w') (k : FrD C' D' w' w'') (hs : ∀ j o, j < w.heap.size → C' j o → C j o) (hd : ∀ j, j < w.heap.size → D' j → D j) : FrD C D w w'' where
  os := k.os.trans h.os
  tape := k.tape.trans h.tape
  output := k.output.trans h.output
  size := Nat.le_trans h.size k.size
  block := fun j hj hn => (k.block j (Nat.lt_of_lt_of_le hj h.size) (fun o hc => hn o (hs j o hj hc))).trans (h.block j hj hn)
  cell := fun j o hj hn => (k.cell j o (Nat.lt_of_lt_of_le hj h.size) (fun hc => hn (hs j o hj hc))).trans (h.cell j o hj hn)
  frozen := fun j o hj hn => (k.frozen j o (Nat.lt_of_lt_of_le hj h.size) (fun hc => hn (hd j hj hc))).trans (h.frozen j o hj hn)
theorem FrD.of_grown {w w' : World} {row : Option Nat} (g : w.grownBy w' row) : FrD (fun b _ => row = some b) (fun b => row = some b) w w' where
  os := g.os
  tape := g.tape
  output := g.output
  size := g.size
  block := fun k hk hn => g.block k hk (fun e => hn 0 e.symm)
  cell := fun k o hk hn => World.cell?_of_block (a := ⟨k, o, none⟩) (g.block k hk (fun e => hn e.symm))
  frozen := fun k o hk hn => World.frozen?_of_block (a := ⟨k, o, none⟩) (g.block k hk (fun e => hn e.symm))

/-- A packet's cells. -/
def pcells (me : Mb) (dst : ByteArray) (v : Value) : List Value := [.string dst, .int .u8 6, .int .u64 0, .string me.addr, .int .u64 me.tok, .int .u8 me.st, .int .u64 me.inc, .string ByteArray.empty, v]

/-- The cells that send may write. -/
def SendC (nb g : Nat) (d : List Nat) (vo : Value) (b o : Nat) : Prop := (b = nb ∧ (o = 24 ∨ o = 28)) ∨ b = g ∨ (b ∈ d ∧ o = 4) ∨ vo.ownBlock = some b

variable {w : World} {nb mp : Nat} {es : Array MapEntry} {clock : Nat} {me : Mb} {d : List Nat} {mem : Nat → Mb} {key : Nat → Int}

structure SendRes (w : World) (B nb g : Nat) (d : List Nat) (mem : Nat → Mb) (key : Nat → Int) (me : Mb) (dst : ByteArray) (vo : Value) (n : Nat) (xs : List Value) (ns kept : List Nat) (wr : World) : Prop where
  row : ∃ v, wr.cell? ⟨nb, 24, none⟩ = some v ∧ RowIs wr v nb g kept
  out : ∃ v vo', wr.cell? ⟨nb, 28, none⟩ = some vo' ∧ wr.ownsRow B 67 9 vo' (n + 1) (xs ++ pcells me dst v) ∧ wr.ownsRow w.heap.size 29 4 v ns.length (mcells (ns.map mem))
  sent : ∀ k ∈ d, wr.cell? ⟨k, 4, none⟩ = some (.int .i64 (bump key ns k))
  fr : FrD (SendC nb g d vo) (fun b => vo.ownBlock = some b) w wr

/-- What the node holds stands behind what writes in no old block. -/
theorem NdIn.below (h : NdIn w nb mp es clock me d mem key) {W : World} (hB : Below w.heap.size w W) : NdIn W nb mp es clock me d mem key := by
  have hz := hB.size
  have c : ∀ b o, b < w.heap.size → W.cell? ⟨b, o, none⟩ = w.cell? ⟨b, o, none⟩ := fun b o hb => hB.cell (p := ⟨b, o, none⟩) hb
  have f : ∀ b o, b < w.heap.size → W.frozen? ⟨b, o, none⟩ = w.frozen? ⟨b, o, none⟩ := fun b o hb => hB.frozen (p := ⟨b, o, none⟩) hb
  refine ⟨(c _ _ h.nlt).trans h.s0, (c _ _ h.nlt).trans h.s1, (c _ _ h.nlt).trans h.s2, (c _ _ h.nlt).trans h.s3, h.ok, (c _ _ h.nlt).trans h.map, (hB.block mp (lt_of_heap h.obj)).trans h.obj, h.few, fun k hk => ?_, h.nodup, h.nd, (f _ _ h.nlt).trans h.fn, (f _ _ h.nlt).trans h.fo, by have := h.nlt; omega⟩
  have r := h.rum k hk
  exact ⟨by have := r.lt; omega, (c _ _ r.lt).trans r.a, (c _ _ r.lt).trans r.t, (c _ _ r.lt).trans r.s', (c _ _ r.lt).trans r.i, (c _ _ r.lt).trans r.sent, (f _ _ r.lt).trans r.fz, r.ok, r.lo, r.hi⟩
theorem RowIs.block {W W' : World} {v : Value} {g : Nat} (h : RowIs W v nb g d) (hb : W'.heap[g]? = W.heap[g]? ∨ ∀ a n c, v ≠ .slice (some a) n c) : RowIs W' v nb g d := by
  rcases h with h | ⟨cap, rest, rfl, h1, h2⟩
  · exact Or.inl h
  · rcases hb with hb | hb
    · exact Or.inr ⟨cap, rest, rfl, hb.trans h1, h2⟩
    · exact absurd rfl (hb _ _ _)

set_option maxRecDepth 100000 in
set_option maxHeartbeats 4000000 in
theorem send_any (B nb g : Nat) (pos : Nat → Nat) (h : NdIn w nb mp es clock me d mem key) {rv : Value} (hr : w.cell? ⟨nb, 24, none⟩ = some rv) (hrow : RowIs w rv nb g d) (hbig : d.length ≤ 100000) (hp : d.Pairwise (fun x y => pos x < pos y)) (hng : nb ≠ g) (hgB : g < B) (hdB : ∀ k ∈ d, k < B)
    (dst : ByteArray) (vo : Value) (n : Nat) (xs : List Value) (ho : w.cell? ⟨nb, 28, none⟩ = some vo) (hown : w.ownsRow B 67 9 vo n xs) (hB0 : B ≤ w.heap.size) (hn : n ≤ 100000) (hnbB : nb < B) :
    Calls Yba.prog 12 #[.pointer (some ⟨nb, 0, none⟩), .string dst, .agg #[.int .u8 6, .int .u64 0, .string ByteArray.empty, .int .u64 0, .int .u8 0, .int .u64 0, .string ByteArray.empty, .slice none 0 0], .slice none 0 0] w fun e w' => e = .returned (.tuple #[]) ∧ ∃ d1, d1.Perm d ∧ d1.Pairwise (Stab.lt key pos) ∧
      SendRes w B nb g d mem key me dst vo n xs (packF mem key me es.size d1).ns (packF mem key me es.size d1).kept w' := by
  obtain ⟨i0, hi0, hz0, hz1, hz2⟩ := info_parts info67
  have hglt : g < w.heap.size := by omega
  have hs0 := h.s0
  have hs1 := h.s1
  have hs2 := h.s2
  have hs3 := h.s3
  have hnlt := h.nlt
  have hbd := recF_bd h.ok
  have hroom : roomF me = 1400 - (recF me + 8) := rfl
  have HR : Hid (roomF me = 1400 - (recF me + 8)) := hroom
  clear hroom
  go_enter Yba.func12, Yba.ntmps12
  go_wp2_with (go_at_call 19; refine (size_any me h.ok _).mono ?_; rintro e w1 ⟨rfl, hB1⟩)
  have hBw : Below w.heap.size w w1 := ((Below.refl _ _).alloc (Nat.le_refl _) _).trans (hB1.mono (by simp))
  have hsz1 := hBw.size
  have hsz1' : w.heap.size < w1.heap.size := by have := hB1.size; simp at this; omega
  have hN1 := h.below hBw
  have hr1 := (hBw.cell (p := ⟨nb, 24, none⟩) hnlt).trans hr
  have hrow1 : RowIs w1 rv nb g d := hrow.block (Or.inl (hBw.block g hglt))
  have m0 : w1.cell? ⟨w.heap.size, 0, none⟩ = some (.int .u8 6) := (hB1.cell (p := ⟨w.heap.size, 0, none⟩) (by simp)).trans (by simp)
  have m1 : w1.cell? ⟨w.heap.size, 1, none⟩ = some (.int .u64 0) := (hB1.cell (p := ⟨w.heap.size, 1, none⟩) (by simp)).trans (by simp)
  have m2 : w1.cell? ⟨w.heap.size, 2, none⟩ = some (.string me.addr) := (hB1.cell (p := ⟨w.heap.size, 2, none⟩) (by simp)).trans (by simp)
  have m3 : w1.cell? ⟨w.heap.size, 3, none⟩ = some (.int .u64 me.tok) := (hB1.cell (p := ⟨w.heap.size, 3, none⟩) (by simp)).trans (by simp)
  have m4 : w1.cell? ⟨w.heap.size, 4, none⟩ = some (.int .u8 me.st) := (hB1.cell (p := ⟨w.heap.size, 4, none⟩) (by simp)).trans (by simp)
  have m5 : w1.cell? ⟨w.heap.size, 5, none⟩ = some (.int .u64 me.inc) := (hB1.cell (p := ⟨w.heap.size, 5, none⟩) (by simp)).trans (by simp)
  have m6 : w1.cell? ⟨w.heap.size, 6, none⟩ = some (.string ByteArray.empty) := (hB1.cell (p := ⟨w.heap.size, 6, none⟩) (by simp)).trans (by simp)
  have m7 : w1.cell? ⟨w.heap.size, 7, none⟩ = some (.slice none 0 0) := (hB1.cell (p := ⟨w.heap.size, 7, none⟩) (by simp)).trans (by simp)
  have mf : w1.frozen? ⟨w.heap.size, 7, none⟩ = false := (hB1.frozen (p := ⟨w.heap.size, 7, none⟩) (by simp)).trans (by simp)
  have hmd : w.heap.size ∉ d := fun hm => by have := (h.rum _ hm).lt; omega
  have hpig := piggy_both nb w.heap.size g pos hN1 hr1 hrow1 hbig m7 mf (by omega) hmd (by omega) hp
  rw [HR.out] at hpig
  have ho1 := (hBw.cell (p := ⟨nb, 28, none⟩) hnlt).trans ho
  have hown1 : w1.ownsRow B 67 9 vo n xs := ownsRow_block hown fun b hb => hBw.block b (ownsRow_lt hown hb).2
  clear hB1 hs0 hs1 hs2 hs3
  refine wp_loop_rounds 1 ?_
  rw [rounds_succ]
  go_wp2_with (go_at_call 21; refine hpig.mono ?_; rintro e w2 ⟨rfl, d1, hperm, hlt, hP⟩)
  obtain ⟨rv2, hr2, hrow2⟩ := hP.row
  obtain ⟨v, v7, hv⟩ := hP.news
  have hF := hP.fr
  have hnc : ∀ o, o ≠ 24 → ¬ PigC nb w.heap.size g d nb o := by
    rintro o ho (⟨_, e⟩ | ⟨e, _⟩ | e | ⟨e, _⟩)
    · exact ho e
    · omega
    · exact hng e
    · exact h.nd e
  have hmc : ∀ o, o ≠ 7 → ¬ PigC nb w.heap.size g d w.heap.size o := by
    rintro o ho (⟨e, _⟩ | ⟨_, e⟩ | e | ⟨e, _⟩)
    · omega
    · exact ho e
    · omega
    · exact hmd e
  have ho2 := (hF.cell nb 28 hN1.nlt (hnc 28 (by omega))).trans ho1
  have n0 := (hF.cell _ 0 hsz1' (hmc 0 (by omega))).trans m0
  have n1 := (hF.cell _ 1 hsz1' (hmc 1 (by omega))).trans m1
  have n2 := (hF.cell _ 2 hsz1' (hmc 2 (by omega))).trans m2
  have n3 := (hF.cell _ 3 hsz1' (hmc 3 (by omega))).trans m3
  have n4 := (hF.cell _ 4 hsz1' (hmc 4 (by omega))).trans m4
  have n5 := (hF.cell _ 5 hsz1' (hmc 5 (by omega))).trans m5
  have n6 := (hF.cell _ 6 hsz1' (hmc 6 (by omega))).trans m6
  have of2 := (hF.frozen nb 28 hN1.nlt).trans hN1.fo
  have hsz2 := hF.size
  have hown2 : w2.ownsRow B 67 9 vo n xs := ownsRow_block hown1 fun b hb => by
    have hb1 := ownsRow_lt hown hb
    refine hF.block b (by omega) ?_
    rintro o (⟨e, _⟩ | ⟨e, _⟩ | e | ⟨e, _⟩)
    · omega
    · omega
    · omega
    · have := hdB b e; omega
  have HO : Hid (w.ownsRow B 67 9 vo n xs) := hown
  clear m0 m1 m2 m3 m4 m5 m6 m7 hpig hr hr1 ho ho1 hown hown1 hrow hrow1
  have hXB : Below w2.heap.size w2 (w2.alloc (.cells #[.string dst, .int .u8 6, .int .u64 0, .string me.addr, .int .u64 me.tok, .int .u8 me.st, .int .u64 me.inc, .string ByteArray.empty, v] 67)).drew := ((Below.refl _ _).alloc (Nat.le_refl _) _).drew
  have hownX : (w2.alloc (.cells #[.string dst, .int .u8 6, .int .u64 0, .string me.addr, .int .u64 me.tok, .int .u8 me.st, .int .u64 me.inc, .string ByteArray.empty, v] 67)).drew.ownsRow B 67 9 vo n xs := ownsRow_block hown2 fun b hb => hXB.block b (ownsRow_lt hown2 hb).2
  have hv1 : v.oneCell' = true := by
    rcases hv.2 with ⟨rfl, _⟩ | ⟨_, _, _, rfl, _⟩ <;> rfl
  have x28 : (w2.alloc (.cells #[.string dst, .int .u8 6, .int .u64 0, .string me.addr, .int .u64 me.tok, .int .u8 me.st, .int .u64 me.inc, .string ByteArray.empty, v] 67)).cell? ⟨nb, 28, none⟩ = some vo := (hXB.cell (p := ⟨nb, 28, none⟩) (by simp; omega)).trans ho2
  have x28' : (w2.alloc (.cells #[.string dst, .int .u8 6, .int .u64 0, .string me.addr, .int .u64 me.tok, .int .u8 me.st, .int .u64 me.inc, .string ByteArray.empty, v] 67)).drew.cell? ⟨nb, 28, none⟩ = some vo := x28
  have hone : ∀ u ∈ pcells me dst v, u.oneCell' = true := by
    intro u hu
    simp only [pcells, List.mem_cons, List.not_mem_nil, or_false] at hu
    rcases hu with rfl | rfl | rfl | rfl | rfl | rfl | rfl | rfl | rfl <;> first | rfl | exact hv1
  have hfar5 : ∀ W, (w2.alloc (.cells #[.string dst, .int .u8 6, .int .u64 0, .string me.addr, .int .u64 me.tok, .int .u8 me.st, .int .u64 me.inc, .string ByteArray.empty, v] 67)).drew.grownBy W vo.ownBlock → W.cell? ⟨nb, 28, none⟩ = some vo ∧ W.frozen? ⟨nb, 28, none⟩ = false := by
    intro W hg
    have hb : W.heap[nb]? = w2.heap[nb]? := (hg.block nb (by simp; omega) (fun e => by have := (ownsRow_lt hown2 e.symm).1; omega)).trans (hXB.block nb (by omega))
    exact ⟨(World.cell?_of_block (a := ⟨nb, 28, none⟩) hb).trans ho2, (World.frozen?_of_block (a := ⟨nb, 28, none⟩) hb).trans of2⟩
  have hbase : B ≤ (w2.alloc (.cells #[.string dst, .int .u8 6, .int .u64 0, .string me.addr, .int .u64 me.tok, .int .u8 me.st, .int .u64 me.inc, .string ByteArray.empty, v] 67)).drew.heap.size := by simp; omega
  have Hres : Hid (∀ gg gcap w5, w5.ownsRow B 67 9 (.slice (some ⟨gg, 0, none⟩) (n + 1) gcap) (n + 1) (xs ++ pcells me dst v) → (w2.alloc (.cells #[.string dst, .int .u8 6, .int .u64 0, .string me.addr, .int .u64 me.tok, .int .u8 me.st, .int .u64 me.inc, .string ByteArray.empty, v] 67)).drew.grownBy w5 vo.ownBlock →
      SendRes w B nb g d mem key me dst vo n xs (packF mem key me es.size d1).ns (packF mem key me es.size d1).kept (w5.setCell ⟨nb, 28, none⟩ (.slice (some ⟨gg, 0, none⟩) (n + 1) gcap))) := by
    intro gg gcap w5 hown5 hg
    have hlt2 : ∀ b, b < w2.heap.size → vo.ownBlock ≠ some b → w5.heap[b]? = w2.heap[b]? := fun b hb hne => (hg.block b (by simp; omega) (fun e => hne e.symm)).trans (hXB.block b hb)
    have hfarB : ∀ b, b < B → w5.heap[b]? = w2.heap[b]? := fun b hb => hlt2 b (by omega) (fun e => by have := (ownsRow_lt hown2 e).1; omega)
    have hgg := ownsRow_lt hown5 rfl
    have hset : ∀ b, b ≠ nb → (w5.setCell ⟨nb, 28, none⟩ (.slice (some ⟨gg, 0, none⟩) (n + 1) gcap)).heap[b]? = w5.heap[b]? := fun b hb => Below.heap_setCell _ _ _ _ hb
    refine ⟨⟨rv2, ?_, hrow2.block (Or.inl ?_)⟩, ⟨v, _, World.cell?_setCell_same _ _ _ (hfar5 w5 hg).1, ownsRow_block hown5 fun b hb => hset b (by have := (ownsRow_lt hown5 hb).1; omega), ?_⟩, fun k hk => ?_, ?_⟩
    · rw [(Fr.setCell_one w5 nb 28 _).cell nb 24 (by have := hg.size; simp at this; omega) (by rintro ⟨_, e⟩; omega), World.cell?_of_block (a := ⟨nb, 24, none⟩) (hfarB nb hnbB)]
      exact hr2
    · rw [hset g (Ne.symm hng), hfarB g hgB]
    · refine ownsRow_base (b := w1.heap.size) (ownsRow_block hv fun b hb => ?_) (by omega)
      have hb1 := ownsRow_lt hv hb
      rw [hset b (by omega)]
      exact hlt2 b hb1.2 (fun e => by have := (ownsRow_lt hown2 e).2; have := (ownsRow_lt HO.out e).2; omega)
    · have hkB := hdB k hk
      have hkn : k ≠ nb := fun e => h.nd (e ▸ hk)
      rw [World.cell?_of_block (a := ⟨k, 4, none⟩) (hset k hkn), World.cell?_of_block (a := ⟨k, 4, none⟩) (hfarB k hkB)]
      exact hP.sent k hk
    · have f1 : FrD (SendC nb g d vo) (fun b => vo.ownBlock = some b) w w2 := by
        refine (Fr.toD (C := SendC nb g d vo) (Fr.of_below hBw (Nat.le_refl _)) _).trans (hF.toD _) ?_ (fun _ _ h => h)
        rintro b o hb (⟨rfl, rfl⟩ | ⟨rfl, _⟩ | rfl | h')
        · exact Or.inl ⟨rfl, Or.inl rfl⟩
        · omega
        · exact Or.inr (Or.inl rfl)
        · exact Or.inr (Or.inr (Or.inl h'))
      have f2 : FrD (SendC nb g d vo) (fun b => vo.ownBlock = some b) w w5 :=
        (f1.trans (Fr.toD (C := fun _ _ => False) (Fr.of_below hXB (Nat.le_refl _)) (fun _ => False)) (fun _ _ _ h => h.elim) (fun _ _ h => h.elim)).trans (FrD.of_grown hg) (fun _ _ _ e => Or.inr (Or.inr (Or.inr e))) (fun _ _ e => e)
      exact f2.trans ((Fr.setCell_one w5 nb 28 _).toD (fun _ => False)) (fun b o _ h => by obtain ⟨rfl, rfl⟩ := h; exact Or.inl ⟨rfl, Or.inr rfl⟩) (fun _ _ h => h.elim)
  go_region_law
    ((refine step_append_lies _ (by rfl) _ _ _ (by rfl) B 67 i0 _ 9 112 Yba.underlying68 hi0 hz0 hz1 hz2 rfl (by omega) vo n xs (by rfl) hownX ⟨w2.heap.size, 0, none⟩ 1 1 (pcells me dst v) (by rfl) (by rfl) (World.news_of_block (cs := #[.string dst, .int .u8 6, .int .u64 0, .string me.addr, .int .u64 me.tok, .int .u8 me.st, .int .u64 me.inc, .string ByteArray.empty, v]) (t := 67) (fr := (0, 0)) (heap_alloc_new w2 _)) hone (by omega) (by unfold maxLen; omega) (by omega) hbase (w2.heap.size + 1) (by simp) ?_; intro gg gcap w5 hown5 hgrow hat hlt5; obtain ⟨c28, f28⟩ := hfar5 _ hgrow))
  all_goals
    go_end0
    exact ⟨rfl, d1, hperm, hlt, Hres.out _ _ _ hown5 hgrow⟩
end Go.Proofs.Ybulkejoc
