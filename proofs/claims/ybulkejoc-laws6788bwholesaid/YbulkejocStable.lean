/- slices.stableCmpFunc (31) and SortStableFunc (25) at the row of rumours: the stable order by 'sent'. -/
import Derived.Test.YbulkejocSymC
import Derived.Test.YbulkejocChunk
namespace Go.Proofs.Ybulkejoc
open Go.ChangeShapes Go.WideShapes Go.ChangeAt Go.RowKit Go.Proofs.Ybulkejoc.Stab

theorem sym_any (w0 : World) (g : Nat) (rest : List Value) (key : Nat → Int) (pos : Nat → Nat) (n cap : Nat) : ∀ N, SymSaid w0 g rest key pos n cap N
  | 0 => fun X L R Y a m b w hN hL hR => by omega
  | N + 1 => fun X L R Y a m b w hN hL hR hX hM hB hn hbig h hk hsL hsR hx => by
    by_cases h1 : L.length = 1
    · match L, h1 with
      | [x], _ =>
        refine symA w0 g rest key pos X x R Y a m b hX (by simp at hM; omega) hB w n cap hR hn hbig h hk hsR (fun y hy => hx x (by simp) y hy)
    · by_cases h2 : R.length = 1
      · match R, h2 with
        | [y], _ =>
          refine symB w0 g rest key pos X y L Y a m b hX (by simp at hB; omega) hM w n cap (by omega) hn hbig h hk hsL (fun x hxx => hx x hxx y (by simp))
      · exact symC w0 g rest key pos n cap N (sym_any w0 g rest key pos n cap N) X L R Y a m b w hN (by omega) (by omega) hX hM hB hn hbig h hk hsL hsR hx

/-- The first loop: chunks of twenty, sorted; the tail as it came. -/
structure Fst (key : Nat → Int) (pos : Nat → Nat) (d0 : List Nat) (a : Nat) (Cs : List (List Nat)) (T : List Nat) : Prop where
  len : ∀ C ∈ Cs, C.length = 20
  srt : ∀ C ∈ Cs, C.Pairwise (lt key pos)
  tl : T.Pairwise (fun x y => pos x < pos y)
  ord : (Cs ++ [T]).Pairwise (Ahead pos)
  perm : (Cs.flatten ++ T).Perm d0
  at' : Cs.flatten.length = a

theorem Fst.step {key : Nat → Int} {pos : Nat → Nat} {d0 : List Nat} {a k : Nat} {Cs : List (List Nat)} {T S : List Nat} (h : Fst key pos d0 a Cs T) (hS : S.Perm (T.take 20)) (hs : S.Pairwise (lt key pos)) (hk : (T.take 20).length = k) (h20 : k = 20) : Fst key pos d0 (a + 20) (Cs ++ [S]) (T.drop 20) := by
  have hl : S.length = 20 := by rw [hS.length_eq, hk, h20]
  have h3 := h.ord
  rw [List.pairwise_append] at h3
  refine ⟨fun C hC => ?_, fun C hC => ?_, h.tl.sublist (List.drop_sublist _ _), ?_, ?_, ?_⟩
  · rcases List.mem_append.1 hC with hC | hC
    · exact h.len C hC
    · rw [List.mem_singleton.1 hC]; exact hl
  · rcases List.mem_append.1 hC with hC | hC
    · exact h.srt C hC
    · rw [List.mem_singleton.1 hC]; exact hs
  · rw [List.append_assoc, List.pairwise_append]
    refine ⟨h3.1, ?_, fun C hC D hD => ?_⟩
    · simp only [List.singleton_append, List.pairwise_cons, List.mem_singleton]
      refine ⟨?_, ?_⟩
      · rintro D rfl x hx y hy
        have hx' := hS.mem_iff.1 hx
        have h4 := h.tl
        rw [← List.take_append_drop 20 T, List.pairwise_append] at h4
        exact h4.2.2 x hx' y hy
      · exact ⟨fun _ h => (by cases h), List.Pairwise.nil⟩
    · have h5 := h3.2.2 C hC T (by simp)
      intro x hx y hy
      refine h5 x hx y ?_
      simp only [List.singleton_append, List.mem_cons, List.not_mem_nil, or_false] at hD
      rcases hD with rfl | rfl
      · exact List.mem_of_mem_take (hS.mem_iff.1 hy)
      · exact List.mem_of_mem_drop hy
  · refine List.Perm.trans ?_ h.perm
    rw [List.flatten_append, List.flatten_singleton, List.append_assoc]
    refine List.Perm.append_left _ ?_
    conv => rhs; rw [← List.take_append_drop 20 T]
    exact hS.append_right _
  · rw [List.flatten_append, List.flatten_singleton, List.length_append, h.at', hl]

theorem Fst.done {key : Nat → Int} {pos : Nat → Nat} {d0 : List Nat} {a : Nat} {Cs : List (List Nat)} {T S : List Nat} (h : Fst key pos d0 a Cs T) (hS : S.Perm T) (hs : S.Pairwise (lt key pos)) : Ch key pos 20 [] Cs S ∧ (Cs.flatten ++ S).Perm d0 := by
  refine ⟨⟨fun C hC => (by cases hC), h.len, fun C hC => (by cases hC), h.srt, hs, ?_⟩, (hS.append_left _).trans h.perm⟩
  have h3 := h.ord
  rw [List.pairwise_append] at h3
  rw [List.nil_append, List.pairwise_append]
  refine ⟨h3.1, by simp, fun C hC D hD => ?_⟩
  rw [List.mem_singleton.1 hD]
  exact fun x hx y hy => h3.2.2 C hC T (by simp) x hx y (hS.mem_iff.1 hy)

/-- The second loop's state: chunks of bs, a shorter tail, all of d0. -/
structure Snd (key : Nat → Int) (pos : Nat → Nat) (d0 : List Nat) (bs : Nat) (Ds Cs : List (List Nat)) (T : List Nat) (a : Nat) : Prop where
  ch : Ch key pos bs Ds Cs T
  tl : T.length < bs
  perm : (Ds.flatten ++ (Cs.flatten ++ T)).Perm d0
  at' : Ds.flatten.length = a

theorem Snd.count {key : Nat → Int} {pos : Nat → Nat} {d0 : List Nat} {bs a : Nat} {Ds Cs : List (List Nat)} {T : List Nat} (h : Snd key pos d0 bs Ds Cs T a) : a + (Cs.length * bs + T.length) = d0.length := by
  have := h.perm.length_eq
  rw [List.length_append, List.length_append, flatten_len h.ch.clen, h.at'] at this
  exact this

set_option maxHeartbeats 4000000 in
theorem stable_any (w0 : World) (g : Nat) (rest : List Value) (key : Nat → Int) (pos : Nat → Nat) (d0 : List Nat) (w : World) (n cap : Nat) (Hn : Hid (d0.length = n)) (hbig : n ≤ 100000)
    (h : SW w0 g rest d0 w) (hk : Keys w0 g key d0) (hp : d0.Pairwise (fun x y => pos x < pos y)) :
    Calls Yba.prog 31 #[.slice (some ⟨g, 0, none⟩) n cap, .int .i64 (n : Int), .func (.func 26) #[] #[]] w fun e w' =>
      e = .returned (.tuple #[]) ∧ ∃ d, d.Perm d0 ∧ d.Pairwise (lt key pos) ∧ SW w0 g rest d w' := by
  go_enter Yba.func31, Yba.ntmps31
  go_wp2
  go_loopw [7, 8] (fun va vb wr => ∃ (a : Nat) (Cs : List (List Nat)) (T : List Nat), a ≤ n ∧ va = .int .i64 (a : Int) ∧ vb = .int .i64 ((a + 20 : Nat) : Int) ∧ Hid (Fst key pos d0 a Cs T) ∧ SW w0 g rest (Cs.flatten ++ T) wr) (fun _ vb _ => n + 20 - (intOf vb).toNat)
  case atStart => exact ⟨0, [], d0, by omega, rfl, rfl, ⟨fun C hC => (by cases hC), fun C hC => (by cases hC), hp, by simp, by simp, rfl⟩, by simpa using h⟩
  case round =>
    obtain ⟨a, Cs, T, han, rfl, rfl, HF, hw⟩ := hrel
    have HT : Hid (a + T.length = n) := by
      have h1 := HF.out.perm.length_eq; have h2 := HF.out.at'; have h3 := Hn.out
      rw [List.length_append] at h1
      show _ = _
      omega
    by_cases hlt : a + 20 ≤ n
    · have hlt' : (a : Int) + 20 ≤ (n : Int) := by omega
      go_wp2_with fail
      rw [show (a : Int) + 20 = ((a + 20 : Nat) : Int) by omega]
      refine (isort_any w0 g rest key pos Cs.flatten (T.take 20) (T.drop 20) a (a + 20) HF.out.at' (show _ = _ by have h1 := HF.out.at'; have h2 := HT.out; rw [List.length_take]; omega) _ n cap (by rw [List.append_assoc, List.take_append_drop, List.length_append]; have h1 := HF.out.at'; have h2 := HT.out; omega) (by omega) (by rw [List.append_assoc, List.take_append_drop]; exact hw) (by rw [List.append_assoc, List.take_append_drop]; exact hk.perm HF.out.perm) (HF.out.tl.sublist (List.take_sublist _ _))).mono ?_
      rintro e w1 ⟨rfl, S, hS, hs, hw1⟩
      go_wp2
      go_roundw
      case rel =>
        have h2 := HT.out
        exact ⟨a + 20, Cs ++ [S], T.drop 20, hlt, by go_num, by go_num, HF.out.step hS hs rfl (by rw [List.length_take]; omega), by simpa [List.flatten_append] using hw1⟩
      case measure => simp [intOf]; omega
    · have hlt' : ¬ (a : Int) + 20 ≤ (n : Int) := by omega
      go_wp2_with fail
      refine (isort_any w0 g rest key pos Cs.flatten T [] a n HF.out.at' (show _ = _ by have h1 := HF.out.at'; have h2 := HT.out; omega) _ n cap (by rw [List.append_nil, List.length_append]; have h1 := HF.out.at'; have h2 := HT.out; omega) (by omega) (by rw [List.append_nil]; exact hw) (by rw [List.append_nil]; exact hk.perm HF.out.perm) HF.out.tl).mono ?_
      rintro e w1 ⟨rfl, S, hS, hs, hw1⟩
      rw [List.append_nil] at hw1
      have HS : Hid (Snd key pos d0 20 [] Cs S 0) := by
        obtain ⟨k1, k2⟩ := HF.out.done hS hs
        exact ⟨k1, by have h2 := HT.out; rw [hS.length_eq]; omega, by simpa using k2, rfl⟩
      clear hw hlt hlt' HF HT h hS hs
      go_wp2
      go_loopw [6] (fun v6 wr => ∃ (bs : Nat) (Cs : List (List Nat)) (T : List Nat), 20 ≤ bs ∧ bs ≤ 200000 ∧ v6 = .int .i64 (bs : Int) ∧ Hid (Snd key pos d0 bs [] Cs T 0) ∧ SW w0 g rest (Cs.flatten ++ T) wr) (fun v6 _ => n - (intOf v6).toNat)
      case atStart => exact ⟨20, Cs, S, by omega, by omega, rfl, HS, hw1⟩
      case round =>
        clear hw1 HS
        obtain ⟨bs, Cs, T, hbs0, hbs1, rfl, HS, hw⟩ := hrel
        by_cases hlt : bs < n
        · have hlt' : (bs : Int) < (n : Int) := by omega
          obtain ⟨wo, rfl⟩ : ∃ wo : World, wo = wr := ⟨_, rfl⟩
          go_wp2
          go_loopw [7, 8] (fun va vb wr => ∃ (a : Nat) (Ds Cs : List (List Nat)) (T : List Nat), a ≤ n ∧ va = .int .i64 (a : Int) ∧ vb = .int .i64 ((a + 2 * bs : Nat) : Int) ∧ Hid (Snd key pos d0 bs Ds Cs T a) ∧ SW w0 g rest (Ds.flatten ++ (Cs.flatten ++ T)) wr) (fun _ vb _ => n + 2 * bs - (intOf vb).toNat)
          case atStart => exact ⟨0, [], Cs, T, by omega, rfl, by go_num, HS, by simpa using hw⟩
          case round =>
            clear hw HS
            obtain ⟨a, Ds, Cs, T, han, rfl, rfl, HS, hw⟩ := hrel
            have HC : Hid (a + (Cs.length * bs + T.length) = n) := HS.out.count.trans Hn.out
            by_cases hle : a + 2 * bs ≤ n
            · have hle' : (a : Int) + 2 * (bs : Int) ≤ (n : Int) := by omega
              obtain ⟨C1, C2, Cs', hCs⟩ : ∃ C1 C2 Cs', Cs = C1 :: C2 :: Cs' := by
                have h1 := HC.out; have h2 := HS.out.tl
                match Cs, h1 with
                | [], h1 => simp at h1; omega
                | [C], h1 => simp at h1; omega
                | C1 :: C2 :: Cs', _ => exact ⟨C1, C2, Cs', rfl⟩
              subst hCs
              have hl1 : C1.length = bs := HS.out.ch.clen C1 (by simp)
              have hl2 : C2.length = bs := HS.out.ch.clen C2 (by simp)
              have HL : Hid (C1.length = bs ∧ C2.length = bs) := ⟨hl1, hl2⟩
              clear hl1 hl2
              go_wp2_with fail
              rw [show (a : Int) + (bs : Int) = ((a + bs : Nat) : Int) by omega, show (a : Int) + 2 * (bs : Int) = ((a + 2 * bs : Nat) : Int) by omega]
              have h0 := HL.out
              refine (sym_any w0 g rest key pos n cap (2 * bs) Ds.flatten C1 C2 (Cs'.flatten ++ T) a (a + bs) (a + 2 * bs) _ (by omega) (by omega) (by omega) HS.out.at' (by omega) (by omega) ?_ (by omega) ?_ ?_ (HS.out.ch.csrt C1 (by simp)) (HS.out.ch.csrt C2 (by simp)) ?_).mono ?_
              · have h1 := HS.out.perm.length_eq; have h2 := Hn.out
                simp at h1 ⊢
                omega
              · simpa [List.append_assoc] using hw
              · refine hk.perm ?_
                have h1 := HS.out.perm
                simpa [List.append_assoc] using h1
              · exact ahead_two (A := Ds) (B := Cs' ++ [T]) (by simpa using HS.out.ch.ord)
              rintro e w2 ⟨rfl, M, hM, hw2⟩
              clear h0 hw
              go_wp2
              go_roundw
              case rel =>
                refine ⟨a + 2 * bs, Ds ++ [M], Cs', T, hle, by go_num, by go_num, ?_, by simpa [List.flatten_append] using hw2⟩
                refine ⟨HS.out.ch.merge hM, HS.out.tl, ?_, ?_⟩
                · refine List.Perm.trans ?_ HS.out.perm
                  simp only [List.flatten_append, List.flatten_cons, List.flatten_nil, List.append_nil, List.append_assoc]
                  refine List.Perm.append_left _ ?_
                  rw [← List.append_assoc C1]
                  exact hM.1.append_right _
                · rw [List.flatten_append, List.flatten_singleton, List.length_append, HS.out.at', hM.1.length_eq, List.length_append]
                  have := HL.out
                  omega
              case measure => simp [intOf]; omega
            · have hle' : ¬ (a : Int) + 2 * (bs : Int) ≤ (n : Int) := by omega
              by_cases hm : a + bs < n
              · have hm' : (a : Int) + (bs : Int) < (n : Int) := by omega
                obtain ⟨C1, hCs⟩ : ∃ C1, Cs = [C1] := by
                  have h1 := HC.out; have h2 := HS.out.tl
                  match Cs, h1 with
                  | [], h1 => simp at h1; omega
                  | [C], _ => exact ⟨C, rfl⟩
                  | C1 :: C2 :: Cs', h1 =>
                    simp only [List.length_cons] at h1
                    have : (Cs'.length + 1 + 1) * bs = Cs'.length * bs + bs + bs := by rw [Nat.add_mul, Nat.add_mul]; omega
                    omega
                subst hCs
                have hl1 : C1.length = bs := HS.out.ch.clen C1 (by simp)
                have hT0 : a + bs + T.length = n := by have h1 := HC.out; simp at h1; omega
                have HL : Hid (C1.length = bs ∧ a + bs + T.length = n) := ⟨hl1, hT0⟩
                clear hl1 hT0
                go_wp2_with fail
                rw [show (a : Int) + (bs : Int) = ((a + bs : Nat) : Int) by omega]
                have h0 := HL.out
                refine (sym_any w0 g rest key pos n cap (2 * bs) Ds.flatten C1 T [] a (a + bs) n _ (by have := HS.out.tl; omega) (by omega) (by omega) HS.out.at' (by omega) (by omega) ?_ (by omega) ?_ ?_ (HS.out.ch.csrt C1 (by simp)) HS.out.ch.tsrt ?_).mono ?_
                · have h1 := HS.out.perm.length_eq; have h2 := Hn.out
                  simp at h1 ⊢
                  omega
                · simpa [List.append_assoc] using hw
                · refine hk.perm ?_
                  have h1 := HS.out.perm
                  simpa [List.append_assoc] using h1
                · exact ahead_two (A := Ds) (B := []) (by simpa using HS.out.ch.ord)
                rintro e w2 ⟨rfl, M, hM, hw2⟩
                clear h0 hw
                go_wp2
                go_roundw
                case rel =>
                  refine ⟨2 * bs, Ds, M, by omega, by omega, by go_num, ?_, by simpa using hw2⟩
                  refine ⟨(HS.out.ch.mergeTail hM).next, ?_, ?_, rfl⟩
                  · rw [hM.1.length_eq, List.length_append]
                    have := HL.out; have := HS.out.tl
                    omega
                  · refine List.Perm.trans ?_ HS.out.perm
                    simp only [List.flatten_nil, List.nil_append, List.flatten_cons, List.append_nil]
                    exact hM.1.append_left _
                case measure => simp [intOf]; omega
              · have hm' : ¬ (a : Int) + (bs : Int) < (n : Int) := by omega
                obtain ⟨T', HT'⟩ : ∃ T', Hid (Snd key pos d0 (2 * bs) [] Ds T' 0 ∧ Ds.flatten ++ (Cs.flatten ++ T) = Ds.flatten ++ T') := by
                  have h1 := HC.out; have h2 := HS.out.tl
                  match Cs, h1, HS.out with
                  | [], h1, hS => exact ⟨T, ⟨hS.ch.next, by omega, by simpa using hS.perm, rfl⟩, by simp⟩
                  | [C], h1, hS =>
                    have hT : T = [] := List.eq_nil_of_length_eq_zero (by simp at h1; omega)
                    have hmm : Merged key pos C T C := by rw [hT]; exact merged_nil_right (hS.ch.csrt C (by simp))
                    refine ⟨C, ⟨(hS.ch.mergeTail hmm).next, by rw [hS.ch.clen C (by simp)]; omega, ?_, rfl⟩, by simp [hT]⟩
                    have := hS.perm
                    rw [hT] at this
                    simpa using this
                  | C1 :: C2 :: Cs', h1, _ =>
                    simp only [List.length_cons] at h1
                    have : (Cs'.length + 1 + 1) * bs = Cs'.length * bs + bs + bs := by rw [Nat.add_mul, Nat.add_mul]; omega
                    omega
                go_wp2
                go_roundw
                case rel =>
                  refine ⟨2 * bs, Ds, T', by omega, by omega, by go_num, HT'.out.1, ?_⟩
                  rw [← HT'.out.2]
                  exact hw
                case measure => simp [intOf]; omega
        · have hlt' : ¬ (bs : Int) < (n : Int) := by omega
          go_wp2
          go_end0
          refine ⟨rfl, Cs.flatten ++ T, by simpa using HS.out.perm, HS.out.ch.end ?_ (by omega), hw⟩
          have h1 := HS.out.perm.length_eq
          have h2 := Hn.out
          simp at h1 ⊢
          omega

/-- SortStableFunc hands the row on. -/
theorem sortStable_any (w0 : World) (g : Nat) (rest : List Value) (key : Nat → Int) (pos : Nat → Nat) (d0 : List Nat) (w : World) (n cap : Nat) (Hn : Hid (d0.length = n)) (hbig : n ≤ 100000)
    (h : SW w0 g rest d0 w) (hk : Keys w0 g key d0) (hp : d0.Pairwise (fun x y => pos x < pos y)) :
    Calls Yba.prog 25 #[.slice (some ⟨g, 0, none⟩) n cap, .func (.func 26) #[] #[]] w fun e w' =>
      e = .returned (.tuple #[]) ∧ ∃ d, d.Perm d0 ∧ d.Pairwise (lt key pos) ∧ SW w0 g rest d w' := by
  go_enter Yba.func25, Yba.ntmps25
  go_wp2_with (go_at_call 31; refine (stable_any w0 g rest key pos d0 _ n cap Hn hbig h hk hp).mono ?_; rintro e w' ⟨rfl, hd⟩)
  go_end0
  exact ⟨rfl, hd⟩
end Go.Proofs.Ybulkejoc
