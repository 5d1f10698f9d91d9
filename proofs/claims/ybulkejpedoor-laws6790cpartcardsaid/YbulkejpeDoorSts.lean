/- search.StoreSteps (18) and its iterator (22). -/
import Derived.Test.YbulkejpeDoorLoss
import Derived.Shelf.Abstract
import Derived.Shelf.RegionOpen
namespace Go.Proofs.YbulkejpeDoor
open Go Go.RowKit Go.Shelf
attribute [local go_sem] Oper.semAt_some

theorem repSeq_any (lev e : Int) (A : Option Addr) (n cap : Nat) (r c : Int) (w : World) : Calls Ybad.prog 23 #[stV lev e (.slice A n cap) r c] w fun e' w' => e' = .returned (.func (.func 27) #[] #[.pointer (some ⟨w.heap.size, 0, none⟩)]) ∧ w' = w.alloc (.cells #[.int .i64 lev, .slice A n cap, .int .i64 r, .int .i64 c, .int .i64 e] 31) := by
  unfold stV
  go_enter Ybad.func23, Ybad.ntmps23
  go_wp2
  go_ret
  exact ⟨rfl, rfl⟩

abbrev It := (Nat × Nat) ⊕ Nat
def encS (lev e : Int) (LA : Option Addr) (n cap r c : Nat) : It → Array Value
  | .inl x => #[.agg #[.int .i64 x.1, .int .i64 x.2, .int .i64 0, .int .i64 0], stV lev e (.slice LA n cap) x.1 x.2]
  | .inr k => #[.agg #[.int .i64 0, .int .i64 0, .int .i64 k, .int .i64 (e + 1)], stV lev (e + 1) (.slice LA k k) r c]
def stps (r c n : Nat) (loss : Bool) : List It := (repls r c n).map .inl ++ if loss then (List.range (n - c)).map (fun j => .inr (c + j)) else []

theorem lossCells_at (lev e : Int) (LA : Option Addr) (r c : Nat) : ∀ (m j o : Nat), j < m → o < 5 → (lossCells lev e LA r c m)[j * 5 + o]? = ([.int .i64 lev, .slice LA (c + j) (c + j), .int .i64 r, .int .i64 c, .int .i64 (e + 1)] : List Value)[o]? := by
  have len : ∀ m, (lossCells lev e LA r c m).length = m * 5 := by
    intro m
    induction m with
    | zero => rfl
    | succ m ih => rw [lossCells_succ, List.length_append, ih]; simp; omega
  intro m
  induction m with
  | zero => intro j o hj; omega
  | succ m ih =>
    intro j o hj ho
    rw [lossCells_succ]
    by_cases h : j < m
    · rw [List.getElem?_append_left (by rw [len]; omega)]
      exact ih j o h ho
    · have : j = m := by omega
      subst this
      rw [List.getElem?_append_right (by rw [len]; omega), len]
      congr 1
      omega

set_option maxRecDepth 100000 in
set_option maxHeartbeats 2000000 in
theorem sts_in (lev e : Int) (a : Addr) (n cap r c sb lb : Nat) (loss : Bool) (hrc : r ≤ c) (hcn : c ≤ n) (hn : n ≤ 512) (hcap : n ≤ cap) (he0 : 0 ≤ e) (he1 : e ≤ 1000) :
    SeqT Ybad.prog 22 #[.pointer (some ⟨sb, 0, none⟩), .pointer (some ⟨lb, 0, none⟩)] (encS lev e (some a) n cap r c) (· = stps r c n loss) (· <+: stps r c n loss)
      (fun T W => (∀ k, T k → k < W.heap.size) ∧ T sb ∧ T lb ∧ StAt W sb lev e (.slice (some a) n cap) r c ∧ W.cell? ⟨lb, 0, none⟩ = some (.bool loss)) := by
  intro l J Jx W T hneed hJ hJx hY h0
  obtain ⟨hTlt, hTs, hTl, ⟨s0, s1, s2, s3, s4⟩, hloss⟩ := hneed
  have hsb : sb < W.heap.size := hTlt sb hTs
  have hlb : lb < W.heap.size := hTlt lb hTl
  simp only [List.append_toArray, List.cons_append, List.nil_append]
  refine callsIn_of_wp_marks Ybad.func22 rfl trivial ?_ rfl
  simp only [Ybad.ntmps22, List.size_toArray, List.length_cons, List.length_nil, Nat.reduceAdd, Nat.reduceSub, Array.replicate_succ, Array.replicate_zero, List.push_toArray, List.append_toArray, List.nil_append, List.cons_append]
  have hrs := fun w => repSeq_any lev e (some a) n cap r c w
  simp only [stV] at hrs
  gi_wp2
  refine ⟨trivial, rfl, (callsIn_wide.2 (hrs _)).mono ?_⟩
  rintro e' w' ⟨rfl, rfl⟩
  gi_wp2
  have hgr : W.grownBy ((W.alloc (.cells #[.func (.yield l) #[] #[]] 96)).alloc (.cells #[.int .i64 lev, .slice (some a) n cap, .int .i64 r, .int .i64 c, .int .i64 e] 31)) none := grownBy_of_below (((Below.refl _ _).alloc (Nat.le_refl _) _).alloc (by simp) _)
  have hbx : Boxed ((W.alloc (.cells #[.func (.yield l) #[] #[]] 96)).alloc (.cells #[.int .i64 lev, .slice (some a) n cap, .int .i64 r, .int .i64 c, .int .i64 e] 31)) W.heap.size 96 (.func (.yield l) #[] #[]) := by
    show _ = _
    rw [heap_alloc_old _ _ (by simp), heap_alloc_new]
  have hst : ((W.alloc (.cells #[.func (.yield l) #[] #[]] 96)).alloc (.cells #[.int .i64 lev, .slice (some a) n cap, .int .i64 r, .int .i64 c, .int .i64 e] 31)).heap[W.heap.size + 1]? = some (.cells #[.int .i64 lev, .slice (some a) n cap, .int .i64 r, .int .i64 c, .int .i64 e] 31 (0, 0)) := by
    have := heap_alloc_new (W.alloc (.cells #[.func (.yield l) #[] #[]] 96)) (.cells #[.int .i64 lev, .slice (some a) n cap, .int .i64 r, .int .i64 c, .int .i64 e] 31)
    simpa using this
  have hJ0 := hJ.add T [] W _ h0 hgr
  have hz0 : ((W.alloc (.cells #[.func (.yield l) #[] #[]] 96)).alloc (.cells #[.int .i64 lev, .slice (some a) n cap, .int .i64 r, .int .i64 c, .int .i64 e] 31)).heap.size = W.heap.size + 2 := by simp
  have hsm0 : Same T W ((W.alloc (.cells #[.func (.yield l) #[] #[]] 96)).alloc (.cells #[.int .i64 lev, .slice (some a) n cap, .int .i64 r, .int .i64 c, .int .i64 e] 31)) := fun k hk hl => hgr.block k hl (by simp)
  generalize (W.alloc (.cells #[.func (.yield l) #[] #[]] 96)).alloc (.cells #[.int .i64 lev, .slice (some a) n cap, .int .i64 r, .int .i64 c, .int .i64 e] 31) = W0 at hgr hbx hst hJ0 hz0 hsm0 ⊢
  refine range_law (gf := 27) (lb := #[.pointer (some ⟨W.heap.size + 1, 0, none⟩)]) rfl (enters_of Ybad.func27 (by kernel_rfl) rfl) (repl_in lev e (some a) n cap r c (W.heap.size + 1) hrc hcn hn) (fun _ => rfl)
    (fun k => T k ∨ (W.heap.size ≤ k ∧ k < W0.heap.size)) (fun k hk => by rcases hk with hk | hk; have := hTlt k hk; omega; omega)
    (fun X hX => ⟨.inr ⟨by omega, by omega⟩, by
      have hb := (hX.block (W.heap.size + 1) (by omega)).trans hst
      exact ⟨by rw [cell_of_block hb]; rfl, by rw [cell_of_block hb]; rfl, by rw [cell_of_block hb]; rfl, by rw [cell_of_block hb]; rfl, by rw [cell_of_block hb]; rfl⟩⟩)
    (fun T' pre X => J (fun k => T' k ∨ k = W.heap.size) (pre.map .inl) X ∧ Boxed X W.heap.size 96 (.func (.yield l) #[] #[]))
    (fun T' pre X => Jx (fun k => T' k ∨ k = W.heap.size) (pre.map .inl) X)
    ?hI ?hIx ?h0
    (fun x a' X => ∃ Bx, X.heap[Bx]? = some (.cells #[.int .i64 lev, .slice (some a) n cap, .int .i64 x.1, .int .i64 x.2, .int .i64 e] 31 (0, 0)) ∧ a' = { tmps := #[.func (.yield l) #[] #[], .pointer (some ⟨sb, 0, none⟩), .pointer (some ⟨lb, 0, none⟩), .pointer (some ⟨W.heap.size, 0, none⟩), .pointer (some ⟨Bx, 0, none⟩), undef, undef, .agg #[.int .i64 lev, .slice (some a) n cap, .int .i64 r, .int .i64 c, .int .i64 e], .func (.func 27) #[] #[.pointer (some ⟨W.heap.size + 1, 0, none⟩)], .agg #[.int .i64 lev, .slice (some a) n cap, .int .i64 x.1, .int .i64 x.2, .int .i64 e], undef, undef, undef, undef, undef, undef, undef, undef, undef, undef, undef, undef, undef, undef, undef, undef, undef, undef, undef, undef, undef, undef, undef, undef, undef, undef, undef, undef, undef], defers := [] })
    ?hAx ?assign ?body ?done ?stop
  case hI =>
    refine ⟨fun T' => ?_, fun T' pre X X' hs hg => ?_, ?_⟩
    · refine OwnFrom.and (fun s A B row hs hg hr => (hJ.sub (B' := W0.heap.size) (by omega)).own _ (s.map .inl) A B row hs hg hr) (Own.from (boxed_own W.heap.size 96 (fun _ => .func (.yield l) #[] #[])) _)
    · refine ⟨set_eq (hJ.add _ _ X X' hs.1 hg) (fun k => or_right_comm), ?_⟩
      exact hs.2.kept hg (by simp)
    · intro T' T'' pre X hs hsub
      exact ⟨hJ.less _ _ _ _ hs.1 (fun k hk => hk.imp (hsub k) id), hs.2⟩
  case hIx =>
    refine ⟨fun T' s A B row hs hg hr => (hJx.sub (B' := W0.heap.size) (by omega)).own _ (s.map .inl) A B row hs hg hr, fun T' pre X X' hs hg => ?_, fun T' T'' pre X hs hsub => hJx.less _ _ _ _ hs (fun k hk => hk.imp (hsub k) id)⟩
    exact set_eq (hJx.add _ _ X X' hs hg) (fun k => or_right_comm)
  case h0 => exact ⟨set_eq hJ0 (fun k => ⟨Or.inl, fun h => h.elim id (fun e => Or.inr ⟨by omega, by omega⟩)⟩), hbx⟩
  case hAx =>
    rintro x a' _ A B row ⟨Bx, h1, h2⟩ hg hr
    exact ⟨Bx, (hg.block Bx (Array.getElem?_eq_some_iff.1 h1).1 (fun e => by obtain ⟨_, o, ho, hc⟩ := hr Bx e.symm; rw [h1] at ho; cases ho; cases hc)).trans h1, h2⟩
  case assign =>
    intro l' T' pre x X K hi hK
    simp only [stV]
    gi_wp2
    exact hK _ _ ((KeepsOthers.alloc _ _).from _) ((Same.refl _ _).alloc (Nat.le_refl _) _) ⟨(hJ.sub (B' := W0.heap.size) (by omega)).own _ |>.alloc _ hi.1, hi.2.alloc _⟩ ⟨X.heap.size, heap_alloc_new _ _, rfl⟩
  case body =>
    rintro l' T' pre x a' X hl hlt ⟨hj, hb⟩ ⟨Bx, hBx, rfl⟩ hlen
    obtain ⟨fn, tmps, asg, bd, hy, hR⟩ := hY (fun k => T' k ∨ k = W.heap.size) (pre.map .inl) (.inl x) X hj (by have h1 : (pre ++ [x]).map .inl <+: stps r c n loss := (hlen.map _).trans (List.prefix_append _ _); simpa using h1)
    simp only [encS, stV] at hy
    have hbc := hb.cell
    have x0 := cell_of_block hBx 0
    have x1 := cell_of_block hBx 1
    have x2 := cell_of_block hBx 2
    have x3 := cell_of_block hBx 3
    have x4 := cell_of_block hBx 4
    simp only [List.getElem?_toArray, List.getElem?_cons_zero, List.getElem?_cons_succ] at x0 x1 x2 x3 x4
    have HR : Hid (RoundIn Fence.wide 0 Ybad.prog l fn tmps asg bd X (RoundOK W.heap.size J Jx (fun k => T' k ∨ k = W.heap.size) (pre.map .inl) (.inl x) X)) := hR
    have Hb : Hid (Boxed X W.heap.size 96 (.func (.yield l) #[] #[])) := hb
    clear hR hb hBx hj
    gi_wp2
    refine ⟨rfl, RoundIn.mono (F := Fence.wide.inRound l') HR.out ?_⟩
    rintro e' X' ⟨hkf, hsm, (⟨rfl, hj'⟩ | ⟨rfl, hjx'⟩)⟩
    · have hkf' : KeepsFrom W0.heap.size X X' := ⟨hkf.size, fun k o hk => hkf.same k o (by omega)⟩
      have hfin : Same T' X X' ∧ J (fun k => T' k ∨ k = W.heap.size) ((pre ++ [x]).map .inl) X' ∧ Boxed X' W.heap.size 96 (.func (.yield l) #[] #[]) := ⟨hsm.sub (fun k hk => .inl hk), by simpa using hj', (hsm _ (.inr rfl) Hb.out.lt).trans Hb.out⟩
      have HF : Hid _ := hfin
      clear hfin hj' hsm
      gi_wp2
      exact ⟨hkf', HF.out⟩
    · have hkf' : KeepsFrom W0.heap.size X X' := ⟨hkf.size, fun k o hk => hkf.same k o (by omega)⟩
      have hfin : Same T' X X' ∧ Jx (fun k => T' k ∨ k = W.heap.size) ((pre ++ [x]).map .inl) X' := ⟨hsm.sub (fun k hk => .inl hk), by simpa using hjx'⟩
      have HF : Hid _ := hfin
      clear hfin hjx' hsm
      gi_wp2
      exact ⟨hkf', HF.out⟩
  case done =>
    rintro D xs X hD hz hs rfl ⟨hj, hb⟩ hK
    have hsW : Same T W X := hsm0.trans (hs.sub (fun k hk => .inl hk)) (by omega)
    have hloss' : X.cell? ⟨lb, 0, none⟩ = some (.bool loss) := (World.cell?_of_block (a := ⟨lb, 0, none⟩) (hsW lb hTl hlb)).trans hloss
    obtain ⟨p0, p1, p2, p3, p4⟩ : StAt X sb lev e (.slice (some a) n cap) r c := StAt.same ⟨s0, s1, s2, s3, s4⟩ hTs hsW
    have Hj : Hid (J T ((repls r c n).map .inl) X) := hJ.less _ _ _ _ hj (fun k hk => .inl (.inl hk))
    have Hj2 : Hid (J (fun k => T k ∨ k = W.heap.size) ((repls r c n).map .inl) X) := hJ.less _ _ _ _ hj (fun k hk => hk.imp .inl id)
    have HT : Hid (Same T W X) := hsW
    have Hbx : Hid (Boxed X W.heap.size 96 (.func (.yield l) #[] #[])) := hb
    have close : ∀ X' : World, X.heap.size ≤ X'.heap.size → X'.heap[D]? = some (.deferred (some [])) → Same T X X' → ∀ (G : (Nat → Prop) → List It → World → Prop) (pre : List It), Abide W.heap.size G → G T pre X' → W.heap.size ≤ (X'.putObj D (.deferred none)).heap.size ∧ Same T W (X'.putObj D (.deferred none)) ∧ G T pre (X'.putObj D (.deferred none)) := by
      intro X' h1 h2 h3 G pre hG h4
      refine ⟨by simp; omega, (HT.out.trans h3 (by omega)).trans (fun k hk _ => World.putObj_heap_other (fun e => by have := hTlt k hk; omega)) (by omega), (hG.own T).putObj _ h4 (by omega) h2 rfl⟩
    clear hj hs hb hsW
    cases loss with
    | false =>
      have hc := close X (Nat.le_refl _) hK (Same.refl _ _) J _ hJ Hj.out
      gi_wp2
      refine ⟨by simp, .inl ⟨_, _, rfl, run_takeDeferred hK, ?_⟩⟩
      refine ⟨_, results_none rfl _ _ _, ⟨_, rfl⟩, hc.1, hc.2.1, .inl ?_⟩
      have : stps r c n false = (repls r c n).map .inl := by simp [stps]
      rw [this]
      exact ⟨_, rfl, hc.2.2⟩
    | true =>
      have hls := fun w => losses_any lev e a n cap r c w hcap hn he0 he1
      simp only [stV] at hls
      gi_wp2
      refine ⟨trivial, rfl, (callsIn_wide.2 (hls _)).mono ?_⟩
      rintro e' X1 ⟨v, rfl, hB1, hrow⟩
      obtain ⟨A', vcap, rfl⟩ := own_form hrow
      have hz1 := hB1.size
      have HJ1 : Hid (J (fun k => (T k ∨ k = W.heap.size) ∨ (X.heap.size ≤ k ∧ k < X1.heap.size)) ((repls r c n).map .inl) X1) := hJ.add _ _ X X1 Hj2.out (grownBy_of_below hB1)
      have Hrow : Hid (X1.ownsRow X.heap.size 31 5 (.slice A' (n - c) vcap) (n - c) (lossCells lev e (some a) r c (n - c))) := hrow
      have HK1 : Hid (X1.heap[D]? = some (.deferred (some []))) := (hB1.block D (Array.getElem?_eq_some_iff.1 hK).1).trans hK
      have Hb1 : Hid (Boxed X1 W.heap.size 96 (.func (.yield l) #[] #[])) := (hB1.block W.heap.size Hbx.out.lt).trans Hbx.out
      have HS1 : Hid (Same T X X1) := fun k hk hl => hB1.block k hl
      obtain ⟨nd, Hnd⟩ : ∃ nd, Hid (n - c = nd) := ⟨_, rfl⟩
      have hnd : nd ≤ 512 := by have := Hnd.out; omega
      rw [Hnd.out]
      rw [Hnd.out] at Hrow
      clear hrow hls p0 p1 p2 p3 p4 hloss'
      have hstp : stps r c n true = (repls r c n).map .inl ++ (List.range nd).map (fun j => .inr (c + j)) := by simp [stps, Hnd.out]
      have Hstp : Hid (stps r c n true = (repls r c n).map .inl ++ (List.range nd).map (fun j => .inr (c + j))) := hstp
      clear hstp
      gi_wp2
      gi_loopw [24] (fun v24 wr => ∃ j : Nat, j ≤ nd ∧ v24 = .int .i64 (j : Int) ∧ Hid ((X1.heap.size ≤ wr.heap.size ∧ Same (fun k => (T k ∨ k = W.heap.size) ∨ (X.heap.size ≤ k ∧ k < X1.heap.size)) X1 wr ∧ wr.heap[D]? = some (.deferred (some []))) ∧ J (fun k => (T k ∨ k = W.heap.size) ∨ (X.heap.size ≤ k ∧ k < X1.heap.size)) ((repls r c n).map .inl ++ (List.range j).map (fun j => .inr (c + j))) wr)) (fun v24 _ => nd - (intOf v24).toNat)
      case atStart => exact ⟨0, Nat.zero_le _, rfl, ⟨Nat.le_refl _, Same.refl _ _, HK1.out⟩, by simpa using HJ1.out⟩
      case round =>
        obtain ⟨j, hj, rfl, H⟩ := hrel
        by_cases hlt : j < nd
        · have hltI : (j : Int) < (nd : Int) := by omega
          obtain ⟨g, vc, e1, hg, hcs⟩ := (own_cells Hrow.out).resolve_left (by rintro ⟨_, h⟩; omega)
          simp only [Value.slice.injEq, true_and] at e1
          obtain ⟨rfl, rfl⟩ := e1
          have hgX : X.heap.size ≤ g := (ownsRow_lt Hrow.out rfl).1
          have hgb := H.out.1.2.1 g (.inr ⟨hgX, hg⟩) hg
          have cm : ∀ o, o < 5 → wr.cell? ⟨g, j * 5 + o, none⟩ = ([.int .i64 lev, .slice (some a) (c + j) (c + j), .int .i64 r, .int .i64 c, .int .i64 (e + 1)] : List Value)[o]? := fun o ho => by
            rw [World.cell?_of_block (a := ⟨g, j * 5 + o, none⟩) hgb, hcs _ (by omega), lossCells_at lev e (some a) r c nd j o hlt ho]
          have y0 := cm 0 (by omega)
          have y1 := cm 1 (by omega)
          have y2 := cm 2 (by omega)
          have y3 := cm 3 (by omega)
          have y4 := cm 4 (by omega)
          simp only [Nat.add_zero, List.getElem?_cons_zero, List.getElem?_cons_succ] at y0 y1 y2 y3 y4
          have hb1 : Boxed wr W.heap.size 96 (.func (.yield l) #[] #[]) := (H.out.1.2.1 W.heap.size (.inl (.inr rfl)) Hb1.out.lt).trans Hb1.out
          have hbc := hb1.cell
          have hblt := hb1.lt
          obtain ⟨cj, Hcj⟩ : ∃ cj, Hid (c + j = cj) := ⟨_, rfl⟩
          rw [Hcj.out] at y1
          obtain ⟨fn, tmps, asg, bd, hy, hR⟩ := hY _ _ (.inr cj) _ (((hJ.own _).alloc (.cells #[.int .i64 lev, .slice (some a) cj cj, .int .i64 r, .int .i64 c, .int .i64 (e + 1)] 31)) H.out.2) (by
            rw [Hstp.out, List.append_assoc]
            refine (List.prefix_append_right_inj _).2 ?_
            have hr := List.range_add (n := j + 1) (m := nd - (j + 1))
            rw [show j + 1 + (nd - (j + 1)) = nd by omega] at hr
            rw [hr, List.range_succ, List.map_append, List.map_append, ← Hcj.out]
            exact List.prefix_append _ _)
          simp only [encS, stV] at hy
          have HR : Hid (RoundIn Fence.wide 0 Ybad.prog l fn tmps asg bd _ _) := hR
          clear hR cm hgb hcs hb1
          have Hlist : Hid ((repls r c n).map .inl ++ (List.range (j + 1)).map (fun j => (.inr (c + j) : It)) = ((repls r c n).map .inl ++ (List.range j).map (fun j => .inr (c + j))) ++ [.inr cj]) := by
            show _ = _
            rw [← Hcj.out, List.range_succ]
            simp
          gi_wp2
          refine ⟨rfl, RoundIn.mono HR.out ?_⟩
          rintro e' X' ⟨hkf, hsm, h3⟩
          have hzk := hkf.size
          simp only [World.size_alloc] at hzk
          have hDX : X'.heap[D]? = some (.deferred (some [])) := hkf.same D _ (by omega) ((heap_alloc_old _ _ (Array.getElem?_eq_some_iff.1 H.out.1.2.2).1).trans H.out.1.2.2) rfl
          have hS' : Same (fun k => (T k ∨ k = W.heap.size) ∨ (X.heap.size ≤ k ∧ k < X1.heap.size)) X1 X' := (H.out.1.2.1.alloc H.out.1.1 _).trans hsm (by simp; have := H.out.1.1; omega)
          have HD : Hid (X'.heap[D]? = some (.deferred (some [])) ∧ Same (fun k => (T k ∨ k = W.heap.size) ∨ (X.heap.size ≤ k ∧ k < X1.heap.size)) X1 X' ∧ X1.heap.size ≤ X'.heap.size) := ⟨hDX, hS', by have := H.out.1.1; omega⟩
          clear hDX hS' hsm hkf
          rcases h3 with ⟨rfl, hj'⟩ | ⟨rfl, hjx'⟩
          · have HJ' : Hid _ := hj'
            clear hj'
            gi_wp2
            go_roundw
            case rel => exact ⟨j + 1, by omega, by go_num, ⟨HD.out.2.2, HD.out.2.1, HD.out.1⟩, by rw [Hlist.out]; exact HJ'.out⟩
            case measure => simp [intOf]; omega
          · have hc := close X' (by have := HD.out.2.2; omega) HD.out.1 (HS1.out.trans (HD.out.2.1.sub (fun k hk => .inl (.inl hk))) hz1) Jx _ hJx (hJx.less _ _ _ _ hjx' (fun k hk => .inl (.inl hk)))
            have HC : Hid _ := hc
            clear hc hjx' close
            gi_wp2
            refine ⟨by simp, .inl ⟨_, _, rfl, run_takeDeferred HD.out.1, ?_⟩⟩
            refine ⟨_, results_none rfl _ _ _, ⟨_, rfl⟩, HC.out.1, HC.out.2.1, .inr ⟨_, ?_, HC.out.2.2⟩⟩
            rw [Hstp.out, ← Hlist.out]
            refine (List.prefix_append_right_inj _).2 (List.IsPrefix.map _ ?_)
            have hr := List.range_add (n := j + 1) (m := nd - (j + 1))
            rw [show j + 1 + (nd - (j + 1)) = nd by omega] at hr
            rw [hr]
            exact List.prefix_append _ _
        · have hltI : ¬ (j : Int) < (nd : Int) := by omega
          have hc := close wr (by have := H.out.1.1; omega) H.out.1.2.2 (HS1.out.trans (H.out.1.2.1.sub (fun k hk => .inl (.inl hk))) hz1) J _ hJ (hJ.less _ _ _ _ H.out.2 (fun k hk => .inl (.inl hk)))
          have Hjn : Hid (j = nd) := by show _ = _; omega
          gi_wp2
          refine ⟨by simp, .inl ⟨_, _, rfl, run_takeDeferred H.out.1.2.2, ?_⟩⟩
          refine ⟨_, results_none rfl _ _ _, ⟨_, rfl⟩, hc.1, hc.2.1, .inl ?_⟩
          rw [Hstp.out, ← Hjn.out]
          exact hc.2.2
  case stop =>
    rintro D pre X hD hz hs hpre hjx hK
    have hsW : Same T W X := hsm0.trans (hs.sub (fun k hk => .inl hk)) (by omega)
    have hc : W.heap.size ≤ (X.putObj D (.deferred none)).heap.size ∧ Same T W (X.putObj D (.deferred none)) ∧ Jx T (pre.map .inl) (X.putObj D (.deferred none)) :=
      ⟨by simp; omega, hsW.trans (fun k hk _ => World.putObj_heap_other (fun e => by have := hTlt k hk; omega)) (by omega), (hJx.own T).putObj _ (hJx.less _ _ _ _ hjx (fun k hk => .inl (.inl hk))) (by omega) hK rfl⟩
    gi_wp2
    refine ⟨by simp, .inl ⟨_, _, rfl, run_takeDeferred hK, ?_⟩⟩
    refine ⟨_, results_none rfl _ _ _, ⟨_, rfl⟩, hc.1, hc.2.1, .inr ⟨_, ?_, hc.2.2⟩⟩
    exact (hpre.map _).trans (List.prefix_append _ _)
end Go.Proofs.YbulkejpeDoor
