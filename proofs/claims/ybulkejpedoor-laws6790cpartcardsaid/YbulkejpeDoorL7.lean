/- The law's seventh loop (inside the sixth): what it expects of the replications. -/
import Derived.Test.YbulkejpeDoorLx
namespace Go.Proofs.YbulkejpeDoor
open Go Go.ChangeShapes Go.WideShapes Go.ChangeAt Go.RowKit
set_option maxRecDepth 1000000
variable {s0 s1 s2 s3 s4 s5 s6 s7 s8 s9 s10 s11 s12 s13 s14 s15 s16 s17 s18 s19 s20 s21 s22 s23 s24 s25 s26 s27 s28 s29 s30 s31 s32 s33 s34 s35 s36 s37 s38 s39 s40 s41 s42 s43 s44 s45 s46 s47 s48 s49 s50 s51 s52 s53 s54 s55 s56 s57 s58 s59 s60 s61 s62 s63 s64 s65 s66 s67 s68 s69 s70 s71 s72 s73 s74 s75 s76 s77 s78 s79 s80 s81 s82 s83 s84 s85 s86 s87 s88 s89 s90 s91 s92 s93 s94 s95 s96 s97 s98 s99 s100 s101 s102 s103 s104 s105 s106 s107 s108 s109 s110 s111 s112 s113 s114 s115 s116 s117 s118 s119 s120 s121 s122 s123 s124 s125 s126 s127 s128 s129 s130 s131 s132 s133 s134 s135 s136 s137 s138 s139 s140 s141 s142 s143 s144 s145 s146 s147 s148 s149 s150 s151 s152 s153 s154 s155 s156 s157 s158 s159 s160 s161 s162 s163 s164 s165 s166 s167 s168 s169 s170 s171 s172 s173 s174 s175 s176 s177 s178 s179 s180 s181 s182 s183 s184 s185 s186 s187 s188 s189 s190 s191 s192 s193 s194 s195 s196 s197 s198 s199 s200 s201 s202 s203 s204 s205 s206 s207 s208 s209 s210 s211 s212 s213 s214 s215 s216 s217 s218 s219 s220 s221 s222 s223 s224 s225 s226 s227 s228 s229 s230 s231 s232 s233 s234 s235 s236 s237 s238 s239 s240 s241 s242 s243 s244 s245 s246 s247 s248 s249 s250 s251 s252 s253 s254 s255 s256 s257 s258 s259 s260 s261 s262 s263 s264 s265 s266 s267 s268 s269 s270 s271 s272 s273 s274 s275 s276 s277 s278 s279 s280 s281 s282 s283 s284 s285 s286 s287 s288 s289 s290 s291 s292 s293 s294 s295 s296 s297 s298 s299 s300 s301 s302 s303 s304 s305 s306 s307 s308 s309 s310 s311 s312 s313 s314 s315 s316 s317 s318 s319 s320 s321 s322 s323 s324 s325 s326 s327 s328 s329 s330 s331 s332 s333 s334 s335 s336 s337 s338 s339 s340 s341 s342 s343 s344 s345 s346 s347 s348 s349 s350 s351 s352 s353 s354 s355 s356 s357 s358 s359 s360 s361 s362 s363 s364 s365 s366 s367 s368 s369 s370 s371 s372 s373 s374 s375 s376 s377 s378 s379 s380 s381 s382 s383 s384 s385 s386 s387 s388 : Value}

theorem row_len (r c c' m : Nat) : (row r c c' m).length ≤ m := Nat.le_trans (List.length_filter_le _ _) (by simp)
theorem upto_len (r c k m : Nat) (hk : c + k ≤ 513) (hm : m ≤ 513) : (upto r c k m).length ≤ k * 513 + 513 := by
  unfold upto
  rw [List.length_append]
  have h1 := flat_len (fun i => row r c (c + i) (c + i + 1 - r)) 513 (List.range k) (fun i hi => by
    have := List.mem_range.1 hi
    have := row_len r c (c + i) (c + i + 1 - r)
    omega)
  rw [List.length_range] at h1
  have h2 := row_len r c (c + k) m
  omega
theorem upto_rowX (r c k : Nat) : upto r c k (c + k + 1 - r) = upto r c (k + 1) 0 := by simp [upto, List.range_succ, row]
theorem upto_next (r c k m : Nat) : upto r c k (m + 1) = if r + m = r ∧ c + k = c then upto r c k m else upto r c k m ++ [(r + m, c + k)] := by
  unfold upto
  rw [row_succ]
  split <;> simp

/-- What stands when k commit points are done, and m read points of the next. -/
def XR (X0 : List (Xp × Nat × Nat)) (lev e : Int) (n r c eb eb2 k m : Nat) : List (Xp × Nat × Nat) := X0 ++ (upto r c k m).map fun x => xpS lev e n r c eb eb2 (.inl x)
theorem XR_len (X0 : List (Xp × Nat × Nat)) (lev e : Int) (n r c eb eb2 k m : Nat) (h0 : X0.length ≤ 1024) (hk : c + k ≤ 512) (hm : m ≤ 513) : (XR X0 lev e n r c eb eb2 k m).length ≤ 300000 := by
  unfold XR
  rw [List.length_append, List.length_map]
  have := upto_len r c k m (by omega) hm
  have : k * 513 ≤ 512 * 513 := Nat.mul_le_mul_right _ (by omega)
  omega

set_option maxHeartbeats 4000000 in
theorem lp7 (w1 w0 : World) (sb n eb eb2 r c k cc : Nat) (lev e : Int) (X0 : List (Xp × Nat × Nat)) (v0 : Value) (hX0 : X0.length ≤ 1024) (hrc : r ≤ c) (hcc : cc ≤ n) (hn : n ≤ 512) (Hk : Hid (cc = c + k)) (HS : Hid (StB w1 sb lev e r c n eb)) (HE0 : Hid (ExpAt w1 (XR X0 lev e n r c eb eb2 k 0) v0 w0)) {Q : Exit → Act → World → Prop}
    (hexit : ∀ a' w', (∃ u40 u44 u45 u286 u287 u288 u289 u290 u291 u292 u293 u294 u295 u296 u297 u298 u299 u300 u301 u302 u303 u304 u305 u306 u307 u308 u309 u310 u311 u312 : Value, (Hid (ExpAt w1 (XR X0 lev e n r c eb eb2 (k + 1) 0) u40 w')) ∧ a' = ⟨List.toArray (s0 :: s1 :: s2 :: s3 :: s4 :: s5 :: s6 :: s7 :: s8 :: s9 :: s10 :: s11 :: s12 :: s13 :: s14 :: s15 :: s16 :: s17 :: s18 :: s19 :: s20 :: (.int .i64 (c : Int)) :: (.int .i64 (r : Int)) :: s23 :: (.pointer (some ⟨sb, 0, none⟩)) :: s25 :: s26 :: s27 :: s28 :: s29 :: s30 :: s31 :: s32 :: s33 :: s34 :: s35 :: s36 :: s37 :: s38 :: s39 :: u40 :: s41 :: s42 :: (.int .i64 (cc : Int)) :: u44 :: u45 :: s46 :: s47 :: s48 :: s49 :: s50 :: s51 :: s52 :: s53 :: s54 :: s55 :: s56 :: s57 :: s58 :: s59 :: s60 :: s61 :: s62 :: s63 :: s64 :: s65 :: s66 :: s67 :: s68 :: s69 :: s70 :: s71 :: s72 :: s73 :: s74 :: s75 :: s76 :: s77 :: s78 :: s79 :: s80 :: s81 :: s82 :: s83 :: s84 :: s85 :: s86 :: s87 :: s88 :: s89 :: s90 :: s91 :: s92 :: s93 :: s94 :: s95 :: s96 :: s97 :: s98 :: s99 :: s100 :: s101 :: s102 :: s103 :: s104 :: s105 :: s106 :: s107 :: s108 :: s109 :: s110 :: s111 :: s112 :: s113 :: s114 :: s115 :: s116 :: s117 :: s118 :: s119 :: s120 :: s121 :: s122 :: s123 :: s124 :: s125 :: s126 :: s127 :: s128 :: s129 :: s130 :: s131 :: s132 :: s133 :: s134 :: s135 :: s136 :: s137 :: s138 :: s139 :: s140 :: s141 :: s142 :: s143 :: s144 :: s145 :: s146 :: s147 :: s148 :: s149 :: s150 :: s151 :: s152 :: s153 :: s154 :: s155 :: s156 :: s157 :: s158 :: s159 :: s160 :: s161 :: s162 :: s163 :: s164 :: s165 :: s166 :: s167 :: s168 :: s169 :: s170 :: s171 :: s172 :: s173 :: s174 :: s175 :: s176 :: s177 :: s178 :: s179 :: s180 :: s181 :: s182 :: s183 :: s184 :: s185 :: s186 :: s187 :: s188 :: s189 :: s190 :: s191 :: s192 :: s193 :: s194 :: s195 :: s196 :: s197 :: s198 :: s199 :: s200 :: s201 :: s202 :: s203 :: s204 :: s205 :: s206 :: s207 :: s208 :: s209 :: s210 :: s211 :: s212 :: s213 :: s214 :: s215 :: s216 :: s217 :: s218 :: s219 :: s220 :: s221 :: s222 :: s223 :: s224 :: s225 :: s226 :: s227 :: s228 :: s229 :: s230 :: s231 :: s232 :: s233 :: s234 :: s235 :: s236 :: s237 :: s238 :: s239 :: s240 :: s241 :: s242 :: s243 :: s244 :: s245 :: s246 :: s247 :: s248 :: s249 :: s250 :: s251 :: s252 :: s253 :: s254 :: s255 :: s256 :: s257 :: s258 :: s259 :: s260 :: s261 :: s262 :: s263 :: s264 :: s265 :: s266 :: s267 :: s268 :: s269 :: s270 :: s271 :: s272 :: s273 :: s274 :: s275 :: s276 :: s277 :: s278 :: s279 :: s280 :: s281 :: s282 :: s283 :: s284 :: s285 :: u286 :: u287 :: u288 :: u289 :: u290 :: u291 :: u292 :: u293 :: u294 :: u295 :: u296 :: u297 :: u298 :: u299 :: u300 :: u301 :: u302 :: u303 :: u304 :: u305 :: u306 :: u307 :: u308 :: u309 :: u310 :: u311 :: u312 :: s313 :: s314 :: s315 :: s316 :: s317 :: s318 :: s319 :: s320 :: s321 :: s322 :: s323 :: s324 :: s325 :: s326 :: s327 :: s328 :: s329 :: s330 :: s331 :: s332 :: s333 :: s334 :: s335 :: s336 :: s337 :: s338 :: s339 :: s340 :: s341 :: s342 :: s343 :: s344 :: s345 :: s346 :: s347 :: s348 :: s349 :: s350 :: s351 :: s352 :: s353 :: s354 :: s355 :: s356 :: s357 :: s358 :: s359 :: s360 :: s361 :: s362 :: s363 :: s364 :: s365 :: s366 :: s367 :: s368 :: s369 :: s370 :: s371 :: s372 :: s373 :: s374 :: s375 :: s376 :: s377 :: s378 :: s379 :: s380 :: s381 :: s382 :: s383 :: s384 :: s385 :: s386 :: s387 :: s388 :: []), []⟩) → Q (.exit 12) a' w') :
    Code.wp Ybad.prog ((Ybad.f3.body.bind (blk 12)).getD .skip) Q ⟨List.toArray (s0 :: s1 :: s2 :: s3 :: s4 :: s5 :: s6 :: s7 :: s8 :: s9 :: s10 :: s11 :: s12 :: s13 :: s14 :: s15 :: s16 :: s17 :: s18 :: s19 :: s20 :: (.int .i64 (c : Int)) :: (.int .i64 (r : Int)) :: s23 :: (.pointer (some ⟨sb, 0, none⟩)) :: s25 :: s26 :: s27 :: s28 :: s29 :: s30 :: s31 :: s32 :: s33 :: s34 :: s35 :: s36 :: s37 :: s38 :: s39 :: v0 :: s41 :: s42 :: (.int .i64 (cc : Int)) :: (.int .i64 (r : Int)) :: s45 :: s46 :: s47 :: s48 :: s49 :: s50 :: s51 :: s52 :: s53 :: s54 :: s55 :: s56 :: s57 :: s58 :: s59 :: s60 :: s61 :: s62 :: s63 :: s64 :: s65 :: s66 :: s67 :: s68 :: s69 :: s70 :: s71 :: s72 :: s73 :: s74 :: s75 :: s76 :: s77 :: s78 :: s79 :: s80 :: s81 :: s82 :: s83 :: s84 :: s85 :: s86 :: s87 :: s88 :: s89 :: s90 :: s91 :: s92 :: s93 :: s94 :: s95 :: s96 :: s97 :: s98 :: s99 :: s100 :: s101 :: s102 :: s103 :: s104 :: s105 :: s106 :: s107 :: s108 :: s109 :: s110 :: s111 :: s112 :: s113 :: s114 :: s115 :: s116 :: s117 :: s118 :: s119 :: s120 :: s121 :: s122 :: s123 :: s124 :: s125 :: s126 :: s127 :: s128 :: s129 :: s130 :: s131 :: s132 :: s133 :: s134 :: s135 :: s136 :: s137 :: s138 :: s139 :: s140 :: s141 :: s142 :: s143 :: s144 :: s145 :: s146 :: s147 :: s148 :: s149 :: s150 :: s151 :: s152 :: s153 :: s154 :: s155 :: s156 :: s157 :: s158 :: s159 :: s160 :: s161 :: s162 :: s163 :: s164 :: s165 :: s166 :: s167 :: s168 :: s169 :: s170 :: s171 :: s172 :: s173 :: s174 :: s175 :: s176 :: s177 :: s178 :: s179 :: s180 :: s181 :: s182 :: s183 :: s184 :: s185 :: s186 :: s187 :: s188 :: s189 :: s190 :: s191 :: s192 :: s193 :: s194 :: s195 :: s196 :: s197 :: s198 :: s199 :: s200 :: s201 :: s202 :: s203 :: s204 :: s205 :: s206 :: s207 :: s208 :: s209 :: s210 :: s211 :: s212 :: s213 :: s214 :: s215 :: s216 :: s217 :: s218 :: s219 :: s220 :: s221 :: s222 :: s223 :: s224 :: s225 :: s226 :: s227 :: s228 :: s229 :: s230 :: s231 :: s232 :: s233 :: s234 :: s235 :: s236 :: s237 :: s238 :: s239 :: s240 :: s241 :: s242 :: s243 :: s244 :: s245 :: s246 :: s247 :: s248 :: s249 :: s250 :: s251 :: s252 :: s253 :: s254 :: s255 :: s256 :: s257 :: s258 :: s259 :: s260 :: s261 :: s262 :: s263 :: s264 :: s265 :: s266 :: s267 :: s268 :: s269 :: s270 :: s271 :: s272 :: s273 :: s274 :: s275 :: s276 :: s277 :: s278 :: s279 :: s280 :: s281 :: s282 :: s283 :: s284 :: s285 :: s286 :: s287 :: s288 :: s289 :: s290 :: s291 :: s292 :: s293 :: s294 :: s295 :: s296 :: s297 :: s298 :: s299 :: s300 :: s301 :: s302 :: s303 :: s304 :: s305 :: s306 :: s307 :: s308 :: s309 :: s310 :: s311 :: s312 :: s313 :: s314 :: s315 :: s316 :: s317 :: s318 :: s319 :: s320 :: s321 :: s322 :: s323 :: s324 :: s325 :: s326 :: s327 :: s328 :: s329 :: s330 :: s331 :: s332 :: s333 :: s334 :: s335 :: s336 :: s337 :: s338 :: s339 :: s340 :: s341 :: s342 :: s343 :: s344 :: s345 :: s346 :: s347 :: s348 :: s349 :: s350 :: s351 :: s352 :: s353 :: s354 :: s355 :: s356 :: s357 :: s358 :: s359 :: s360 :: s361 :: s362 :: s363 :: s364 :: s365 :: s366 :: s367 :: s368 :: s369 :: s370 :: s371 :: s372 :: s373 :: s374 :: s375 :: s376 :: s377 :: s378 :: s379 :: s380 :: s381 :: s382 :: s383 :: s384 :: s385 :: s386 :: s387 :: s388 :: []), []⟩ w0 := by
  conv => arg 2; whnf
  go_loopw [40, 44] (fun v40 vi wr => ∃ m rr : Nat, rr ≤ cc + 1 ∧ Hid (rr = r + m) ∧ vi = .int .i64 (rr : Int) ∧ Hid (ExpAt w1 (XR X0 lev e n r c eb eb2 k m) v40 wr)) (fun _ vi _ => cc + 1 - (intOf vi).toNat)
  case atStart => exact ⟨0, r, by have := Hk.out; omega, rfl, rfl, HE0.out⟩
  case round =>
    obtain ⟨m, rr, hrr, Hm, rfl, HK⟩ := hrel
    by_cases hlt : rr ≤ cc
    · have hltI : (rr : Int) ≤ (cc : Int) := by omega
      have hsz := HK.out.kp.size
      have hsl := lt_of_heap HS.out
      obtain ⟨t0, t1, t2, t3, t4⟩ := StB.cells (HK.out.kp.obj HS.out (fun e => e))
      have hsl' : sb < wr.heap.size := by omega
      clear hsz hsl
      by_cases hsk : rr = r ∧ cc = c
      · obtain ⟨e1, e2⟩ := hsk
        subst e1
        subst e2
        have HQ : Hid (XR X0 lev e n rr cc eb eb2 k (m + 1) = XR X0 lev e n rr cc eb eb2 k m) := by
          show _ = _
          have h1 := Hm.out
          have h2 := Hk.out
          unfold XR
          rw [upto_next, if_pos (by omega)]
        go_wp2
        go_roundw
        case rel => exact ⟨m + 1, rr + 1, by omega, by have := Hm.out; show _ = _; omega, by go_num, by rw [HQ.out]; exact HK.out⟩
        case measure => simp [intOf]; omega
      · have hskI : (rr : Int) = (r : Int) → ¬ (cc : Int) = (c : Int) := by omega
        have HQ : Hid (XR X0 lev e n r c eb eb2 k (m + 1) = XR X0 lev e n r c eb eb2 k m ++ [(⟨⟨0, 0, 0, rr, cc, 0, 0⟩, lev, rr, cc, e, n, -1, 0, false⟩, eb, n)]) := by
          show _ = _
          have h1 := Hm.out
          have h2 := Hk.out
          unfold XR
          rw [upto_next, if_neg (by omega), List.map_append, ← List.append_assoc, ← h1, ← h2]
          rfl
        obtain ⟨g1, p1, w2, hr1, E1, k1⟩ := HK.out.push ((Kept.refl (fun _ => False) wr).alloc (.cells #[.int .i64 lev, .slice (some ⟨eb, 0, none⟩) n n, .int .i64 rr, .int .i64 cc, .int .i64 e] 31)) ⟨⟨0, 0, 0, rr, cc, 0, 0⟩, lev, rr, cc, e, n, -1, 0, false⟩ eb n (XR_len _ _ _ _ _ _ _ _ _ _ hX0 (by have := Hk.out; omega) (by have := Hm.out; omega))
        rw [← HQ.out] at E1
        have HE := Hid.mk' E1
        simp only [Xp.cells, Mv.cells, List.cons_append, List.nil_append, World.size_alloc] at hr1
        clear E1 k1 HQ
        generalize (XR X0 lev e n r c eb eb2 k m).length = L0 at hr1 HE
        by_cases hre : rr = r
        · have hce : ¬ (cc : Int) = (c : Int) := by omega
          subst hre
          clear hskI hsk
          go_wp2_with (at_builtin; refine wpList_append_eq (by rfl) _ _ 78 (by rfl) u40 (.slice (some ⟨wr.heap.size + 1, 0, none⟩) 1 1) _ _ (by rfl) (by rfl) hr1 ?_)
          go_roundw
          case rel => exact ⟨m + 1, rr + 1, by omega, by have := Hm.out; show _ = _; omega, by go_num, HE.out⟩
          case measure => simp [intOf]; omega
        · have hreI : ¬ (rr : Int) = (r : Int) := by omega
          clear hskI hsk
          go_wp2_with (at_builtin; refine wpList_append_eq (by rfl) _ _ 78 (by rfl) u40 (.slice (some ⟨wr.heap.size + 1, 0, none⟩) 1 1) _ _ (by rfl) (by rfl) hr1 ?_)
          go_roundw
          case rel => exact ⟨m + 1, rr + 1, by omega, by have := Hm.out; show _ = _; omega, by go_num, HE.out⟩
          case measure => simp [intOf]; omega
    · have hltI : ¬ (rr : Int) ≤ (cc : Int) := by omega
      have HZ : Hid (ExpAt w1 (XR X0 lev e n r c eb eb2 (k + 1) 0) u40 wr) := by
        have h1 := HK.out
        unfold XR at h1 ⊢
        rw [← upto_rowX, show c + k + 1 - r = m by have := Hm.out; have := Hk.out; omega]
        exact h1
      go_wp2
      all_goals
        repeat apply Exists.intro
        exact ⟨HZ.out, rfl⟩
end Go.Proofs.YbulkejpeDoor
