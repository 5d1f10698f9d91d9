/- The law's second half: Steps is called, and what came is compared. -/
import Derived.Test.YbulkejpeDoorLd
namespace Go.Proofs.YbulkejpeDoor
open Go Go.ChangeShapes Go.WideShapes Go.ChangeAt Go.RowKit
set_option maxRecDepth 1000000
variable {s0 s1 s2 s3 s4 s5 s6 s7 s8 s9 s10 s11 s12 s13 s14 s15 s16 s17 s18 s19 s20 s21 s22 s23 s24 s25 s26 s27 s28 s29 s30 s31 s32 s33 s34 s35 s36 s37 s38 s39 s40 s41 s42 s43 s44 s45 s46 s47 s48 s49 s50 s51 s52 s53 s54 s55 s56 s57 s58 s59 s60 s61 s62 s63 s64 s65 s66 s67 s68 s69 s70 s71 s72 s73 s74 s75 s76 s77 s78 s79 s80 s81 s82 s83 s84 s85 s86 s87 s88 s89 s90 s91 s92 s93 s94 s95 s96 s97 s98 s99 s100 s101 s102 s103 s104 s105 s106 s107 s108 s109 s110 s111 s112 s113 s114 s115 s116 s117 s118 s119 s120 s121 s122 s123 s124 s125 s126 s127 s128 s129 s130 s131 s132 s133 s134 s135 s136 s137 s138 s139 s140 s141 s142 s143 s144 s145 s146 s147 s148 s149 s150 s151 s152 s153 s154 s155 s156 s157 s158 s159 s160 s161 s162 s163 s164 s165 s166 s167 s168 s169 s170 s171 s172 s173 s174 s175 s176 s177 s178 s179 s180 s181 s182 s183 s184 s185 s186 s187 s188 s189 s190 s191 s192 s193 s194 s195 s196 s197 s198 s199 s200 s201 s202 s203 s204 s205 s206 s207 s208 s209 s210 s211 s212 s213 s214 s215 s216 s217 s218 s219 s220 s221 s222 s223 s224 s225 s226 s227 s228 s229 s230 s231 s232 s233 s234 s235 s236 s237 s238 s239 s240 s241 s242 s243 s244 s245 s246 s247 s248 s249 s250 s251 s252 s253 s254 s255 s256 s257 s258 s259 s260 s261 s262 s263 s264 s265 s266 s267 s268 s269 s270 s271 s272 s273 s274 s275 s276 s277 s278 s279 s280 s281 s282 s283 s284 s285 s286 s287 s288 s289 s290 s291 s292 s293 s294 s295 s296 s297 s298 s299 s300 s301 s302 s303 s304 s305 s306 s307 s308 s309 s310 s311 s312 s313 s314 s315 s316 s317 s318 s319 s320 s321 s322 s323 s324 s325 s326 s327 s328 s329 s330 s331 s332 s333 s334 s335 s336 s337 s338 s339 s340 s341 s342 s343 s344 s345 s346 s347 s348 s349 s350 s351 s352 s353 s354 s355 s356 s357 s358 s359 s360 s361 s362 s363 s364 s365 s366 s367 s368 s369 s370 s371 s372 s373 s374 s375 s376 s377 s378 s379 s380 s381 s382 s383 s384 s385 s386 s387 s388 : Value}

set_option maxHeartbeats 8000000 in
theorem lawB (W w1 : World) (n nw r c eb sb wb eb2 wb2 lb : Nat) (lev e lim me : Int) (E : List (ByteArray × ByteArray)) (ws : List Wr) (hn : n ≤ 512) (hnw : nw ≤ 512) (hrc : r ≤ c) (hcn : c ≤ n) (he : 1 ≤ e ∧ e ≤ 4) (hlim : 0 ≤ lim ∧ lim ≤ 100000) (hEn : E.length = n) (HN : Hid (ws.length = nw)) (HH : Hid (Half W n nw r c eb sb wb eb2 wb2 lb lev e lim E ws w1)) :
    Code.wp Ybad.prog ((Ybad.f3.body.bind (fromR 36)).getD .skip) (Go.bodyPost Ybad.prog Ybad.f3 fun e' W' => e' = .returned (.bool true) ∧ Below W.heap.size W W') ⟨List.toArray (s0 :: s1 :: s2 :: s3 :: s4 :: s5 :: s6 :: s7 :: s8 :: s9 :: s10 :: s11 :: s12 :: s13 :: s14 :: s15 :: s16 :: (.int .i64 (n : Int)) :: (.slice (some ⟨eb, 0, none⟩) n n) :: s19 :: s20 :: (.int .i64 (c : Int)) :: (.int .i64 (r : Int)) :: (.int .i64 e) :: (.pointer (some ⟨sb, 0, none⟩)) :: (.slice (some ⟨wb, 0, none⟩) nw nw) :: s26 :: s27 :: s28 :: (.slice (some ⟨eb2, 0, none⟩) n n) :: (.slice (some ⟨wb2, 0, none⟩) nw nw) :: (.int .i64 me) :: (.pointer (some ⟨lb, 0, none⟩)) :: s33 :: s34 :: s35 :: s36 :: s37 :: s38 :: s39 :: s40 :: s41 :: s42 :: s43 :: s44 :: s45 :: s46 :: s47 :: s48 :: s49 :: s50 :: s51 :: s52 :: s53 :: s54 :: s55 :: s56 :: s57 :: s58 :: s59 :: s60 :: s61 :: s62 :: s63 :: s64 :: s65 :: s66 :: s67 :: s68 :: s69 :: s70 :: s71 :: s72 :: s73 :: s74 :: s75 :: s76 :: s77 :: s78 :: s79 :: s80 :: s81 :: s82 :: s83 :: s84 :: s85 :: s86 :: s87 :: s88 :: s89 :: s90 :: s91 :: s92 :: s93 :: s94 :: s95 :: s96 :: s97 :: s98 :: s99 :: s100 :: s101 :: s102 :: s103 :: s104 :: s105 :: s106 :: s107 :: s108 :: s109 :: s110 :: s111 :: s112 :: s113 :: s114 :: s115 :: s116 :: s117 :: s118 :: s119 :: s120 :: s121 :: s122 :: s123 :: s124 :: s125 :: s126 :: s127 :: s128 :: s129 :: s130 :: s131 :: s132 :: s133 :: s134 :: s135 :: s136 :: s137 :: s138 :: s139 :: s140 :: s141 :: s142 :: s143 :: s144 :: s145 :: s146 :: s147 :: s148 :: s149 :: s150 :: s151 :: s152 :: s153 :: s154 :: s155 :: s156 :: s157 :: s158 :: s159 :: s160 :: s161 :: s162 :: s163 :: s164 :: s165 :: s166 :: s167 :: s168 :: s169 :: s170 :: s171 :: s172 :: s173 :: s174 :: s175 :: s176 :: s177 :: s178 :: s179 :: s180 :: s181 :: s182 :: s183 :: s184 :: s185 :: s186 :: s187 :: s188 :: s189 :: s190 :: s191 :: s192 :: s193 :: s194 :: s195 :: s196 :: s197 :: s198 :: s199 :: s200 :: s201 :: s202 :: s203 :: s204 :: s205 :: s206 :: s207 :: s208 :: s209 :: s210 :: s211 :: s212 :: s213 :: s214 :: s215 :: s216 :: s217 :: s218 :: s219 :: s220 :: s221 :: s222 :: s223 :: s224 :: s225 :: s226 :: s227 :: s228 :: s229 :: s230 :: s231 :: s232 :: s233 :: s234 :: s235 :: s236 :: s237 :: s238 :: s239 :: s240 :: s241 :: s242 :: s243 :: s244 :: s245 :: s246 :: s247 :: s248 :: s249 :: s250 :: s251 :: s252 :: s253 :: s254 :: s255 :: s256 :: s257 :: s258 :: s259 :: s260 :: s261 :: s262 :: s263 :: s264 :: s265 :: s266 :: s267 :: s268 :: s269 :: s270 :: s271 :: s272 :: s273 :: s274 :: s275 :: s276 :: s277 :: s278 :: s279 :: s280 :: s281 :: s282 :: s283 :: s284 :: s285 :: s286 :: s287 :: s288 :: s289 :: s290 :: s291 :: s292 :: s293 :: s294 :: s295 :: s296 :: s297 :: s298 :: s299 :: s300 :: s301 :: s302 :: s303 :: s304 :: s305 :: s306 :: s307 :: s308 :: s309 :: s310 :: s311 :: s312 :: s313 :: s314 :: s315 :: s316 :: s317 :: s318 :: s319 :: s320 :: s321 :: s322 :: s323 :: s324 :: s325 :: s326 :: s327 :: s328 :: s329 :: s330 :: s331 :: s332 :: s333 :: s334 :: s335 :: s336 :: s337 :: s338 :: s339 :: s340 :: s341 :: s342 :: s343 :: s344 :: s345 :: s346 :: s347 :: s348 :: s349 :: s350 :: s351 :: s352 :: s353 :: s354 :: s355 :: s356 :: s357 :: s358 :: s359 :: s360 :: s361 :: s362 :: s363 :: s364 :: s365 :: s366 :: s367 :: s368 :: s369 :: s370 :: s371 :: s372 :: s373 :: s374 :: s375 :: s376 :: s377 :: s378 :: s379 :: s380 :: s381 :: s382 :: s383 :: s384 :: s385 :: s386 :: s387 :: s388 :: []), []⟩ w1 := by
  conv => arg 2; whnf
  obtain ⟨t0, t1, t2, t3, t4⟩ := HH.out.st.cells
  have hsl := lt_of_heap HH.out.st
  have hz67 := zrun67
  go_wp2_with (go_at_call 7; refine (call7 HH.out ⟨rfl, rfl, rfl, rfl, _, rfl⟩ hn hnw hrc hcn he hlim hEn HN).mono ?_; rintro _ Y ⟨rfl, HY⟩; clear t0 t1 t2 t3 t4 hz67)
  refine lp3 Y n eb eb2 E hn hEn (HH.out.fe.kept HY.out.1 (fun e => e)) (HH.out.fe2.kept HY.out.1 (fun e => e)) (fun a' w2 hx => ?_)
  obtain ⟨u16, hx⟩ := hx; obtain ⟨u38, hx⟩ := hx; obtain ⟨u215, hx⟩ := hx; obtain ⟨u216, hx⟩ := hx; obtain ⟨u217, hx⟩ := hx; obtain ⟨u218, hx⟩ := hx; obtain ⟨u219, hx⟩ := hx; obtain ⟨u220, hx⟩ := hx; obtain ⟨u221, hx⟩ := hx; obtain ⟨u222, hx⟩ := hx; obtain ⟨u223, hx⟩ := hx; obtain ⟨u224, hx⟩ := hx; obtain ⟨u225, hx⟩ := hx; obtain ⟨u226, hx⟩ := hx; obtain ⟨u227, hx⟩ := hx; obtain ⟨u228, hx⟩ := hx
  obtain ⟨hx2, rfl⟩ := hx
  go_wp2
  refine lp4 w2 nw wb wb2 ws hnw HN.out ((HH.out.fw.kept HY.out.1 (fun e => e)).kept hx2.out (fun e => e)) ((HH.out.fw2.kept HY.out.1 (fun e => e)).kept hx2.out (fun e => e)) (fun a' w3 hx => ?_)
  obtain ⟨u16, hx⟩ := hx; obtain ⟨u39, hx⟩ := hx; obtain ⟨u229, hx⟩ := hx; obtain ⟨u230, hx⟩ := hx; obtain ⟨u231, hx⟩ := hx; obtain ⟨u232, hx⟩ := hx; obtain ⟨u233, hx⟩ := hx; obtain ⟨u234, hx⟩ := hx; obtain ⟨u235, hx⟩ := hx; obtain ⟨u236, hx⟩ := hx; obtain ⟨u237, hx⟩ := hx; obtain ⟨u238, hx⟩ := hx; obtain ⟨u239, hx⟩ := hx; obtain ⟨u240, hx⟩ := hx; obtain ⟨u241, hx⟩ := hx; obtain ⟨u242, hx⟩ := hx; obtain ⟨u243, hx⟩ := hx
  obtain ⟨hx3, rfl⟩ := hx
  go_wp2
  have kY3 : Kept (fun _ => False) Y w3 := hx2.out.trans hx3.out (fun _ _ e => e)
  have HS : Hid (StB w3 sb lev e r c n eb) := kY3.obj (HY.out.1.obj HH.out.st (fun e => e)) (fun e => e)
  refine lp5 w3 sb n nw wb2 eb r c lev e ws hnw HN.out HS ((HH.out.fw2.kept HY.out.1 (fun e => e)).kept kY3 (fun e => e)) (fun a' w4 hx => ?_)
  obtain ⟨u40, hx⟩ := hx; obtain ⟨u41, hx⟩ := hx; obtain ⟨u42, hx⟩ := hx; obtain ⟨u244, hx⟩ := hx; obtain ⟨u245, hx⟩ := hx; obtain ⟨u246, hx⟩ := hx; obtain ⟨u247, hx⟩ := hx; obtain ⟨u248, hx⟩ := hx; obtain ⟨u249, hx⟩ := hx; obtain ⟨u250, hx⟩ := hx; obtain ⟨u251, hx⟩ := hx; obtain ⟨u252, hx⟩ := hx; obtain ⟨u253, hx⟩ := hx; obtain ⟨u254, hx⟩ := hx; obtain ⟨u255, hx⟩ := hx; obtain ⟨u256, hx⟩ := hx; obtain ⟨u257, hx⟩ := hx; obtain ⟨u258, hx⟩ := hx; obtain ⟨u259, hx⟩ := hx; obtain ⟨u260, hx⟩ := hx; obtain ⟨u261, hx⟩ := hx; obtain ⟨u262, hx⟩ := hx; obtain ⟨u263, hx⟩ := hx; obtain ⟨u264, hx⟩ := hx; obtain ⟨u265, hx⟩ := hx; obtain ⟨u266, hx⟩ := hx; obtain ⟨u267, hx⟩ := hx; obtain ⟨u268, hx⟩ := hx; obtain ⟨u269, hx⟩ := hx; obtain ⟨u270, hx⟩ := hx; obtain ⟨u271, hx⟩ := hx; obtain ⟨u272, hx⟩ := hx; obtain ⟨u273, hx⟩ := hx; obtain ⟨u274, hx⟩ := hx; obtain ⟨u275, hx⟩ := hx; obtain ⟨u276, hx⟩ := hx; obtain ⟨u277, hx⟩ := hx; obtain ⟨u278, hx⟩ := hx
  obtain ⟨hx5, rfl⟩ := hx
  have K3 := Hid.mk' kY3
  clear kY3
  go_wp2
  have hX0 : (tag eb n (expTo lev e r c n ws nw)).length ≤ 1024 := by rw [tag_len]; have := expTo_len lev e r c n ws nw; omega
  refine lp6 w3 w4 sb n eb eb2 r c lev e (tag eb n (expTo lev e r c n ws nw)) u40 hX0 hrc hcn hn HS hx5 (fun a' w5 hx => ?_)
  obtain ⟨u40, hx⟩ := hx; obtain ⟨u43, hx⟩ := hx; obtain ⟨u44, hx⟩ := hx; obtain ⟨u45, hx⟩ := hx; obtain ⟨u280, hx⟩ := hx; obtain ⟨u281, hx⟩ := hx; obtain ⟨u282, hx⟩ := hx; obtain ⟨u283, hx⟩ := hx; obtain ⟨u284, hx⟩ := hx; obtain ⟨u285, hx⟩ := hx; obtain ⟨u286, hx⟩ := hx; obtain ⟨u287, hx⟩ := hx; obtain ⟨u288, hx⟩ := hx; obtain ⟨u289, hx⟩ := hx; obtain ⟨u290, hx⟩ := hx; obtain ⟨u291, hx⟩ := hx; obtain ⟨u292, hx⟩ := hx; obtain ⟨u293, hx⟩ := hx; obtain ⟨u294, hx⟩ := hx; obtain ⟨u295, hx⟩ := hx; obtain ⟨u296, hx⟩ := hx; obtain ⟨u297, hx⟩ := hx; obtain ⟨u298, hx⟩ := hx; obtain ⟨u299, hx⟩ := hx; obtain ⟨u300, hx⟩ := hx; obtain ⟨u301, hx⟩ := hx; obtain ⟨u302, hx⟩ := hx; obtain ⟨u303, hx⟩ := hx; obtain ⟨u304, hx⟩ := hx; obtain ⟨u305, hx⟩ := hx; obtain ⟨u306, hx⟩ := hx; obtain ⟨u307, hx⟩ := hx; obtain ⟨u308, hx⟩ := hx; obtain ⟨u309, hx⟩ := hx; obtain ⟨u310, hx⟩ := hx; obtain ⟨u311, hx⟩ := hx; obtain ⟨u312, hx⟩ := hx
  obtain ⟨hx6, rfl⟩ := hx
  obtain ⟨kY, B, G, hR0, hpre0, hor0⟩ := HY.out
  have hpre : Hid (G <+: allEv lev e r c n me ws nw ∧ ((G = allEv lev e r c n me ws nw ∧ more lim G.length) ∨ (lim ≠ 0 ∧ (G.length : Int) = lim))) := ⟨hpre0, hor0⟩
  have hR := Hid.mk' hR0
  clear kY hR0 hpre0 hor0 hX0
  by_cases hme : e < me
  · go_wp2
    have hX1 : (tag eb n (expTo lev e r c n ws nw) ++ (repls r c n).map fun x => xpS lev e n r c eb eb2 (.inl x)).length ≤ 299000 := by
      rw [List.length_append, List.length_map, tag_len]
      have := expTo_len lev e r c n ws nw
      have h2 := stps_len r c n false hn
      unfold stps at h2
      simp at h2
      omega
    refine lp8 w3 w5 sb n eb eb2 r c lev e _ u40 hX1 hcn hn he HS hx6 (fun a' w6 hx => ?_)
    obtain ⟨u40, hx⟩ := hx; obtain ⟨u46, hx⟩ := hx; obtain ⟨u47, hx⟩ := hx; obtain ⟨u317, hx⟩ := hx; obtain ⟨u318, hx⟩ := hx; obtain ⟨u319, hx⟩ := hx; obtain ⟨u320, hx⟩ := hx; obtain ⟨u321, hx⟩ := hx; obtain ⟨u322, hx⟩ := hx; obtain ⟨u323, hx⟩ := hx; obtain ⟨u324, hx⟩ := hx; obtain ⟨u325, hx⟩ := hx; obtain ⟨u326, hx⟩ := hx; obtain ⟨u327, hx⟩ := hx; obtain ⟨u328, hx⟩ := hx; obtain ⟨u329, hx⟩ := hx; obtain ⟨u330, hx⟩ := hx; obtain ⟨u331, hx⟩ := hx; obtain ⟨u332, hx⟩ := hx; obtain ⟨u333, hx⟩ := hx; obtain ⟨u334, hx⟩ := hx; obtain ⟨u335, hx⟩ := hx; obtain ⟨u336, hx⟩ := hx; obtain ⟨u337, hx⟩ := hx; obtain ⟨u338, hx⟩ := hx; obtain ⟨u339, hx⟩ := hx
    obtain ⟨hx8, rfl⟩ := hx
    have hXe : XL (tag eb n (expTo lev e r c n ws nw) ++ (repls r c n).map fun x => xpS lev e n r c eb eb2 (.inl x)) lev e n r c eb eb2 (n - c) = allXp lev e n r c eb eb2 me ws nw := by
      unfold XL allXp stps
      simp [hme, List.map_map, Function.comp_def]
    have hx9 : Hid (ExpAt w3 (allXp lev e n r c eb eb2 me ws nw) u40 w6) := by rw [← hXe]; exact hx8
    clear hx8 hXe hX1
    obtain ⟨Ax, xcap, rfl⟩ := own_form hx9.out.own
    go_wp2
    have kY3 := K3.out
    obtain ⟨v0, us, r1, _, r3, r4, r5⟩ := hR.out.recs
    obtain ⟨Ar, rcap, rfl⟩ := own_form r4
    have kw := Hid.mk' (kY3.trans hx9.out.kp (fun _ _ e => e))
    have HM : Hid (Mt w3 (w1.heap.size + 1 + 1) lb lim B G.length rcap (allXp lev e n r c eb eb2 me ws nw).length xcap wb2 nw Ar Ax ws E G us (allXp lev e n r c eb eb2 me ws nw) w6) := by
      have k4 : Kept (fun _ => False) Y w6 := kY3.trans hx9.out.kp (fun _ _ e => e)
      have kq := HY.out.1.trans k4 (fun _ _ e => e)
      refine ⟨k4.obj r1 (fun e => e), k4.obj hR.out.lim' (fun e => e), rfl, r3, rfl, own_kept r4 k4 (fun _ _ e => e), hx9.out.own, fun i hi hu => ⟨own_kept (r5 i hi hu).2.1 k4 (fun _ _ e => e), own_kept (r5 i hi hu).2.2 k4 (fun _ _ e => e)⟩, fun g hg => ?_, fun p hp => ?_, HH.out.fw2.kept kq (fun e => e), HN.out, hnw, by omega⟩
      · have := allEv_ok lev e n r c me ws nw hcn g (hpre.out.1.subset hg)
        have := HN.out
        omega
      · have := allXp_ok lev e n r c eb eb2 me ws nw hcn p hp
        refine ⟨this.1, ?_⟩
        rw [hEn]
        rcases this.2 with h | h
        · rw [h]; exact HH.out.fe.kept kq (fun e => e)
        · rw [h]; exact HH.out.fe2.kept kq (fun e => e)
    have fin : ∀ w', Kept (fun _ => False) w6 w' → Below W.heap.size W w' := fun w' k => HH.out.bel.trans ((HY.out.1.trans (kw.out.trans k (fun _ _ e => e)) (fun _ _ e => e)).below (fun _ _ e => e) HH.out.bel.size)
    refine lp9 (allEv lev e r c n me ws nw) hlim.1 HM hpre (Al.all lev e n r c eb eb2 me ws nw) (by have := hR.out.many; omega) (allXp_len lev e n r c eb eb2 me ws nw hn hnw) (fun _ _ _ _ _ h => h) (fun a' w' hx => ?_) (fun a' w' hx => ?_)
    · obtain ⟨u16, hx⟩ := hx; obtain ⟨u48, hx⟩ := hx; obtain ⟨u49, hx⟩ := hx; obtain ⟨u340, hx⟩ := hx; obtain ⟨u341, hx⟩ := hx; obtain ⟨u342, hx⟩ := hx; obtain ⟨u343, hx⟩ := hx; obtain ⟨u344, hx⟩ := hx; obtain ⟨u345, hx⟩ := hx; obtain ⟨u346, hx⟩ := hx; obtain ⟨u347, hx⟩ := hx; obtain ⟨u348, hx⟩ := hx; obtain ⟨u349, hx⟩ := hx; obtain ⟨u350, hx⟩ := hx; obtain ⟨u351, hx⟩ := hx; obtain ⟨u352, hx⟩ := hx; obtain ⟨u353, hx⟩ := hx; obtain ⟨u354, hx⟩ := hx; obtain ⟨u355, hx⟩ := hx; obtain ⟨u356, hx⟩ := hx; obtain ⟨u357, hx⟩ := hx; obtain ⟨u358, hx⟩ := hx; obtain ⟨u359, hx⟩ := hx; obtain ⟨u360, hx⟩ := hx; obtain ⟨u361, hx⟩ := hx; obtain ⟨u362, hx⟩ := hx; obtain ⟨u363, hx⟩ := hx; obtain ⟨u364, hx⟩ := hx; obtain ⟨u365, hx⟩ := hx; obtain ⟨u366, hx⟩ := hx; obtain ⟨u367, hx⟩ := hx; obtain ⟨u368, hx⟩ := hx; obtain ⟨u369, hx⟩ := hx; obtain ⟨u370, hx⟩ := hx; obtain ⟨u371, hx⟩ := hx; obtain ⟨u372, hx⟩ := hx; obtain ⟨u373, hx⟩ := hx; obtain ⟨u374, hx⟩ := hx
      obtain ⟨hx, rfl⟩ := hx
      obtain ⟨e1, k1⟩ := hx.out
      clear hx
      subst e1
      go_ret
      exact ⟨rfl, fin _ k1⟩
    · obtain ⟨u16, hx⟩ := hx; obtain ⟨u48, hx⟩ := hx; obtain ⟨u49, hx⟩ := hx; obtain ⟨u340, hx⟩ := hx; obtain ⟨u341, hx⟩ := hx; obtain ⟨u342, hx⟩ := hx; obtain ⟨u343, hx⟩ := hx; obtain ⟨u344, hx⟩ := hx; obtain ⟨u345, hx⟩ := hx; obtain ⟨u346, hx⟩ := hx; obtain ⟨u347, hx⟩ := hx; obtain ⟨u348, hx⟩ := hx; obtain ⟨u349, hx⟩ := hx; obtain ⟨u350, hx⟩ := hx; obtain ⟨u351, hx⟩ := hx; obtain ⟨u352, hx⟩ := hx; obtain ⟨u353, hx⟩ := hx; obtain ⟨u354, hx⟩ := hx; obtain ⟨u355, hx⟩ := hx; obtain ⟨u356, hx⟩ := hx; obtain ⟨u357, hx⟩ := hx; obtain ⟨u358, hx⟩ := hx; obtain ⟨u359, hx⟩ := hx; obtain ⟨u360, hx⟩ := hx; obtain ⟨u361, hx⟩ := hx; obtain ⟨u362, hx⟩ := hx; obtain ⟨u363, hx⟩ := hx; obtain ⟨u364, hx⟩ := hx; obtain ⟨u365, hx⟩ := hx; obtain ⟨u366, hx⟩ := hx; obtain ⟨u367, hx⟩ := hx; obtain ⟨u368, hx⟩ := hx; obtain ⟨u369, hx⟩ := hx; obtain ⟨u370, hx⟩ := hx; obtain ⟨u371, hx⟩ := hx; obtain ⟨u372, hx⟩ := hx; obtain ⟨u373, hx⟩ := hx; obtain ⟨u374, hx⟩ := hx
      obtain ⟨hx, rfl⟩ := hx
      obtain ⟨e1, k1, hz⟩ := hx.out
      clear hx
      subst e1
      have hb0 : Boxed w' (w1.heap.size + 1 + 1) 68 (.slice Ar G.length rcap) := k1.obj HM.out.box (fun e => e)
      have hl0 : Boxed w' lb 3 (.int .i64 lim) := k1.obj HM.out.lbx (fun e => e)
      have hb := hb0.cell
      have hl := hl0.cell
      have hf := fin _ k1
      clear k1 fin hb0 hl0 r1 r3 r4 r5 kY3 hR
      by_cases h0 : lim = 0
      · subst h0
        clear hz
        go_wp2
        go_ret
        exact ⟨rfl, hf⟩
      · have hz' : (G.length : Int) ≤ lim := by omega
        clear hz
        go_wp2
        go_ret
        exact ⟨rfl, hf⟩

  · have hXe : (tag eb n (expTo lev e r c n ws nw) ++ (repls r c n).map fun x => xpS lev e n r c eb eb2 (.inl x)) = allXp lev e n r c eb eb2 me ws nw := by
      unfold allXp stps
      simp [hme, List.map_map, Function.comp_def]
    have hx9 : Hid (ExpAt w3 (allXp lev e n r c eb eb2 me ws nw) u40 w5) := by rw [← hXe]; exact hx6
    clear hx6 hXe
    obtain ⟨Ax, xcap, rfl⟩ := own_form hx9.out.own
    go_wp2
    have kY3 := K3.out
    obtain ⟨v0, us, r1, _, r3, r4, r5⟩ := hR.out.recs
    obtain ⟨Ar, rcap, rfl⟩ := own_form r4
    have kw := Hid.mk' (kY3.trans hx9.out.kp (fun _ _ e => e))
    have HM : Hid (Mt w3 (w1.heap.size + 1 + 1) lb lim B G.length rcap (allXp lev e n r c eb eb2 me ws nw).length xcap wb2 nw Ar Ax ws E G us (allXp lev e n r c eb eb2 me ws nw) w5) := by
      have k4 : Kept (fun _ => False) Y w5 := kY3.trans hx9.out.kp (fun _ _ e => e)
      have kq := HY.out.1.trans k4 (fun _ _ e => e)
      refine ⟨k4.obj r1 (fun e => e), k4.obj hR.out.lim' (fun e => e), rfl, r3, rfl, own_kept r4 k4 (fun _ _ e => e), hx9.out.own, fun i hi hu => ⟨own_kept (r5 i hi hu).2.1 k4 (fun _ _ e => e), own_kept (r5 i hi hu).2.2 k4 (fun _ _ e => e)⟩, fun g hg => ?_, fun p hp => ?_, HH.out.fw2.kept kq (fun e => e), HN.out, hnw, by omega⟩
      · have := allEv_ok lev e n r c me ws nw hcn g (hpre.out.1.subset hg)
        have := HN.out
        omega
      · have := allXp_ok lev e n r c eb eb2 me ws nw hcn p hp
        refine ⟨this.1, ?_⟩
        rw [hEn]
        rcases this.2 with h | h
        · rw [h]; exact HH.out.fe.kept kq (fun e => e)
        · rw [h]; exact HH.out.fe2.kept kq (fun e => e)
    have fin : ∀ w', Kept (fun _ => False) w5 w' → Below W.heap.size W w' := fun w' k => HH.out.bel.trans ((HY.out.1.trans (kw.out.trans k (fun _ _ e => e)) (fun _ _ e => e)).below (fun _ _ e => e) HH.out.bel.size)
    refine lp9 (allEv lev e r c n me ws nw) hlim.1 HM hpre (Al.all lev e n r c eb eb2 me ws nw) (by have := hR.out.many; omega) (allXp_len lev e n r c eb eb2 me ws nw hn hnw) (fun _ _ _ _ _ h => h) (fun a' w' hx => ?_) (fun a' w' hx => ?_)
    · obtain ⟨u16, hx⟩ := hx; obtain ⟨u48, hx⟩ := hx; obtain ⟨u49, hx⟩ := hx; obtain ⟨u340, hx⟩ := hx; obtain ⟨u341, hx⟩ := hx; obtain ⟨u342, hx⟩ := hx; obtain ⟨u343, hx⟩ := hx; obtain ⟨u344, hx⟩ := hx; obtain ⟨u345, hx⟩ := hx; obtain ⟨u346, hx⟩ := hx; obtain ⟨u347, hx⟩ := hx; obtain ⟨u348, hx⟩ := hx; obtain ⟨u349, hx⟩ := hx; obtain ⟨u350, hx⟩ := hx; obtain ⟨u351, hx⟩ := hx; obtain ⟨u352, hx⟩ := hx; obtain ⟨u353, hx⟩ := hx; obtain ⟨u354, hx⟩ := hx; obtain ⟨u355, hx⟩ := hx; obtain ⟨u356, hx⟩ := hx; obtain ⟨u357, hx⟩ := hx; obtain ⟨u358, hx⟩ := hx; obtain ⟨u359, hx⟩ := hx; obtain ⟨u360, hx⟩ := hx; obtain ⟨u361, hx⟩ := hx; obtain ⟨u362, hx⟩ := hx; obtain ⟨u363, hx⟩ := hx; obtain ⟨u364, hx⟩ := hx; obtain ⟨u365, hx⟩ := hx; obtain ⟨u366, hx⟩ := hx; obtain ⟨u367, hx⟩ := hx; obtain ⟨u368, hx⟩ := hx; obtain ⟨u369, hx⟩ := hx; obtain ⟨u370, hx⟩ := hx; obtain ⟨u371, hx⟩ := hx; obtain ⟨u372, hx⟩ := hx; obtain ⟨u373, hx⟩ := hx; obtain ⟨u374, hx⟩ := hx
      obtain ⟨hx, rfl⟩ := hx
      obtain ⟨e1, k1⟩ := hx.out
      clear hx
      subst e1
      go_ret
      exact ⟨rfl, fin _ k1⟩
    · obtain ⟨u16, hx⟩ := hx; obtain ⟨u48, hx⟩ := hx; obtain ⟨u49, hx⟩ := hx; obtain ⟨u340, hx⟩ := hx; obtain ⟨u341, hx⟩ := hx; obtain ⟨u342, hx⟩ := hx; obtain ⟨u343, hx⟩ := hx; obtain ⟨u344, hx⟩ := hx; obtain ⟨u345, hx⟩ := hx; obtain ⟨u346, hx⟩ := hx; obtain ⟨u347, hx⟩ := hx; obtain ⟨u348, hx⟩ := hx; obtain ⟨u349, hx⟩ := hx; obtain ⟨u350, hx⟩ := hx; obtain ⟨u351, hx⟩ := hx; obtain ⟨u352, hx⟩ := hx; obtain ⟨u353, hx⟩ := hx; obtain ⟨u354, hx⟩ := hx; obtain ⟨u355, hx⟩ := hx; obtain ⟨u356, hx⟩ := hx; obtain ⟨u357, hx⟩ := hx; obtain ⟨u358, hx⟩ := hx; obtain ⟨u359, hx⟩ := hx; obtain ⟨u360, hx⟩ := hx; obtain ⟨u361, hx⟩ := hx; obtain ⟨u362, hx⟩ := hx; obtain ⟨u363, hx⟩ := hx; obtain ⟨u364, hx⟩ := hx; obtain ⟨u365, hx⟩ := hx; obtain ⟨u366, hx⟩ := hx; obtain ⟨u367, hx⟩ := hx; obtain ⟨u368, hx⟩ := hx; obtain ⟨u369, hx⟩ := hx; obtain ⟨u370, hx⟩ := hx; obtain ⟨u371, hx⟩ := hx; obtain ⟨u372, hx⟩ := hx; obtain ⟨u373, hx⟩ := hx; obtain ⟨u374, hx⟩ := hx
      obtain ⟨hx, rfl⟩ := hx
      obtain ⟨e1, k1, hz⟩ := hx.out
      clear hx
      subst e1
      have hb0 : Boxed w' (w1.heap.size + 1 + 1) 68 (.slice Ar G.length rcap) := k1.obj HM.out.box (fun e => e)
      have hl0 : Boxed w' lb 3 (.int .i64 lim) := k1.obj HM.out.lbx (fun e => e)
      have hb := hb0.cell
      have hl := hl0.cell
      have hf := fin _ k1
      clear k1 fin hb0 hl0 r1 r3 r4 r5 kY3 hR
      by_cases h0 : lim = 0
      · subst h0
        clear hz
        go_wp2
        go_ret
        exact ⟨rfl, hf⟩
      · have hz' : (G.length : Int) ≤ lim := by omega
        clear hz
        go_wp2
        go_ret
        exact ⟨rfl, hf⟩

end Go.Proofs.YbulkejpeDoor
