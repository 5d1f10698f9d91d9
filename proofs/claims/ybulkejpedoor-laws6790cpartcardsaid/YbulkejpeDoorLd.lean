/- The law's last part: the match; Steps, as the law calls it. -/
import Derived.Test.YbulkejpeDoorZv
import Derived.Test.YbulkejpeDoorL6
import Derived.Test.YbulkejpeDoorL5
import Derived.Test.YbulkejpeDoorL3
namespace Go.Proofs.YbulkejpeDoor
open Go Go.ChangeShapes Go.WideShapes Go.ChangeAt Go.RowKit
set_option maxRecDepth 1000000
variable {s0 s1 s2 s3 s4 s5 s6 s7 s8 s9 s10 s11 s12 s13 s14 s15 s16 s17 s18 s19 s20 s21 s22 s23 s24 s25 s26 s27 s28 s29 s30 s31 s32 s33 s34 s35 s36 s37 s38 s39 s40 s41 s42 s43 s44 s45 s46 s47 s48 s49 s50 s51 s52 s53 s54 s55 s56 s57 s58 s59 s60 s61 s62 s63 s64 s65 s66 s67 s68 s69 s70 s71 s72 s73 s74 s75 s76 s77 s78 s79 s80 s81 s82 s83 s84 s85 s86 s87 s88 s89 s90 s91 s92 s93 s94 s95 s96 s97 s98 s99 s100 s101 s102 s103 s104 s105 s106 s107 s108 s109 s110 s111 s112 s113 s114 s115 s116 s117 s118 s119 s120 s121 s122 s123 s124 s125 s126 s127 s128 s129 s130 s131 s132 s133 s134 s135 s136 s137 s138 s139 s140 s141 s142 s143 s144 s145 s146 s147 s148 s149 s150 s151 s152 s153 s154 s155 s156 s157 s158 s159 s160 s161 s162 s163 s164 s165 s166 s167 s168 s169 s170 s171 s172 s173 s174 s175 s176 s177 s178 s179 s180 s181 s182 s183 s184 s185 s186 s187 s188 s189 s190 s191 s192 s193 s194 s195 s196 s197 s198 s199 s200 s201 s202 s203 s204 s205 s206 s207 s208 s209 s210 s211 s212 s213 s214 s215 s216 s217 s218 s219 s220 s221 s222 s223 s224 s225 s226 s227 s228 s229 s230 s231 s232 s233 s234 s235 s236 s237 s238 s239 s240 s241 s242 s243 s244 s245 s246 s247 s248 s249 s250 s251 s252 s253 s254 s255 s256 s257 s258 s259 s260 s261 s262 s263 s264 s265 s266 s267 s268 s269 s270 s271 s272 s273 s274 s275 s276 s277 s278 s279 s280 s281 s282 s283 s284 s285 s286 s287 s288 s289 s290 s291 s292 s293 s294 s295 s296 s297 s298 s299 s300 s301 s302 s303 s304 s305 s306 s307 s308 s309 s310 s311 s312 s313 s314 s315 s316 s317 s318 s319 s320 s321 s322 s323 s324 s325 s326 s327 s328 s329 s330 s331 s332 s333 s334 s335 s336 s337 s338 s339 s340 s341 s342 s343 s344 s345 s346 s347 s348 s349 s350 s351 s352 s353 s354 s355 s356 s357 s358 s359 s360 s361 s362 s363 s364 s365 s366 s367 s368 s369 s370 s371 s372 s373 s374 s375 s376 s377 s378 s379 s380 s381 s382 s383 s384 s385 s386 s387 s388 : Value}

/-- The first region of a text. -/
def headR : Code → Option Nat
  | .region i _ _ => some i
  | .seq a _ => headR a
  | .block _ c => headR c
  | _ => none
/-- The text from region n on. -/
def fromR (n : Nat) : Code → Option Code
  | .seq a b => if headR a = some n then some (.seq a b) else match fromR n a with
    | some c => some c
    | none => fromR n b
  | .block _ c => fromR n c
  | .cond _ a b => match fromR n a with
    | some c => some c
    | none => fromR n b
  | .loop c => fromR n c
  | .scope c => fromR n c
  | _ => none

/-- What lies in memory where the verifier is made. -/
structure Half (W : World) (n nw r c eb sb wb eb2 wb2 lb : Nat) (lev e lim : Int) (E : List (ByteArray × ByteArray)) (ws : List Wr) (w1 : World) : Prop where
  bel : Below W.heap.size W w1
  fe : Fill w1 eb 28 2 n n (ecells E)
  fe2 : Fill w1 eb2 28 2 n n (ecells E)
  fw : Fill w1 wb 39 5 nw nw (wcells ws)
  fw2 : Fill w1 wb2 39 5 nw nw (wcells ws)
  st : StB w1 sb lev e r c n eb
  lm : Boxed w1 lb 3 (.int .i64 lim)


/-- Steps, as the law calls it. -/
theorem call7 {W w1 : World} {n nw r c eb sb wb eb2 wb2 lb : Nat} {lev e lim me : Int} {E : List (ByteArray × ByteArray)} {ws : List Wr} (hH : Half W n nw r c eb sb wb eb2 wb2 lb lev e lim E ws w1) {cs : Array Value} (hv : VAt w1.heap.size (n : Int) me (.slice none 0 0) cs) (hn : n ≤ 512) (hnw : nw ≤ 512) (hrc : r ≤ c) (hcn : c ≤ n) (he : 1 ≤ e ∧ e ≤ 4) (hlim : 0 ≤ lim ∧ lim ≤ 100000) (hEn : E.length = n) (HN : Hid (ws.length = nw)) :
    Calls Ybad.prog 7 #[.pointer (some ⟨w1.heap.size, 0, none⟩), .agg #[.int .i64 lev, .slice (some ⟨eb, 0, none⟩) n n, .int .i64 r, .int .i64 c, .int .i64 e, .slice (some ⟨wb, 0, none⟩) nw nw], .func (.func 6) #[] #[.pointer (some ⟨w1.heap.size + 1 + 1 + 1, 0, none⟩), .pointer (some ⟨w1.heap.size + 1 + 1, 0, none⟩), .pointer (some ⟨lb, 0, none⟩)]] ((((w1.alloc (.cells cs 67)).alloc (.cells #[.int .i64 lev, .slice (some ⟨eb, 0, none⟩) n n, .int .i64 r, .int .i64 c, .int .i64 e, .slice (some ⟨wb, 0, none⟩) nw nw] 52)).alloc (.cells #[.slice none 0 0] 68)).alloc (.cells #[.int .i64 0] 3)) fun e' Y => e' = .returned (.tuple #[]) ∧
      Hid (Kept (fun _ => False) w1 Y ∧ ∃ B G, RecAt B (w1.heap.size + 1 + 1 + 1) (w1.heap.size + 1 + 1) lb lim E (fun _ => False) G Y ∧ G <+: allEv lev e r c n me ws nw ∧ ((G = allEv lev e r c n me ws nw ∧ more lim G.length) ∨ (lim ≠ 0 ∧ (G.length : Int) = lim))) := by
  have kX : Kept (fun _ => False) w1 ((((w1.alloc (.cells cs 67)).alloc (.cells #[.int .i64 lev, .slice (some ⟨eb, 0, none⟩) n n, .int .i64 r, .int .i64 c, .int .i64 e, .slice (some ⟨wb, 0, none⟩) nw nw] 52)).alloc (.cells #[.slice none 0 0] 68)).alloc (.cells #[.int .i64 0] 3)) := ((((Kept.refl _ _).alloc _).alloc _).alloc _).alloc _
  have hb0 : ((((w1.alloc (.cells cs 67)).alloc (.cells #[.int .i64 lev, .slice (some ⟨eb, 0, none⟩) n n, .int .i64 r, .int .i64 c, .int .i64 e, .slice (some ⟨wb, 0, none⟩) nw nw] 52)).alloc (.cells #[.slice none 0 0] 68)).alloc (.cells #[.int .i64 0] 3)).heap[w1.heap.size]? = some (.cells cs 67 (0, 0)) := by
    rw [heap_alloc_old _ _ (by simp; omega), heap_alloc_old _ _ (by simp; omega), heap_alloc_old _ _ (by simp)]
    exact heap_alloc_new _ _
  have hb2 : Boxed ((((w1.alloc (.cells cs 67)).alloc (.cells #[.int .i64 lev, .slice (some ⟨eb, 0, none⟩) n n, .int .i64 r, .int .i64 c, .int .i64 e, .slice (some ⟨wb, 0, none⟩) nw nw] 52)).alloc (.cells #[.slice none 0 0] 68)).alloc (.cells #[.int .i64 0] 3)) (w1.heap.size + 1 + 1) 68 (.slice none 0 0) := by
    show _ = _
    rw [heap_alloc_old _ _ (by simp)]
    have := heap_alloc_new ((w1.alloc (.cells cs 67)).alloc (.cells #[.int .i64 lev, .slice (some ⟨eb, 0, none⟩) n n, .int .i64 r, .int .i64 c, .int .i64 e, .slice (some ⟨wb, 0, none⟩) nw nw] 52)) (.cells #[.slice none 0 0] 68)
    simpa using this
  have hb3 : Boxed ((((w1.alloc (.cells cs 67)).alloc (.cells #[.int .i64 lev, .slice (some ⟨eb, 0, none⟩) n n, .int .i64 r, .int .i64 c, .int .i64 e, .slice (some ⟨wb, 0, none⟩) nw nw] 52)).alloc (.cells #[.slice none 0 0] 68)).alloc (.cells #[.int .i64 0] 3)) (w1.heap.size + 1 + 1 + 1) 3 (.int .i64 0) := by
    show _ = _
    have := heap_alloc_new (((w1.alloc (.cells cs 67)).alloc (.cells #[.int .i64 lev, .slice (some ⟨eb, 0, none⟩) n n, .int .i64 r, .int .i64 c, .int .i64 e, .slice (some ⟨wb, 0, none⟩) nw nw] 52)).alloc (.cells #[.slice none 0 0] 68)) (.cells #[.int .i64 0] 3)
    simpa using this
  generalize ((((w1.alloc (.cells cs 67)).alloc (.cells #[.int .i64 lev, .slice (some ⟨eb, 0, none⟩) n n, .int .i64 r, .int .i64 c, .int .i64 e, .slice (some ⟨wb, 0, none⟩) nw nw] 52)).alloc (.cells #[.slice none 0 0] 68)).alloc (.cells #[.int .i64 0] 3)) = Z at kX hb0 hb2 hb3 ⊢
  have hll := hH.lm.lt
  have l1 := hH.fe.lt
  have l2 := hH.fw.lt
  have hz := kX.size
  have hR : RecAt 0 (w1.heap.size + 1 + 1 + 1) (w1.heap.size + 1 + 1) lb lim E (fun _ => False) [] Z := ⟨hb3, kX.obj hH.lm (fun e => e), ⟨.slice none 0 0, [], hb2, (fun b hb => by cases hb), rfl, World.ownsRow_nil _ _ _ _, (fun i hi => by simp at hi)⟩, (fun e => e), (fun e => e), by omega, by omega, by simp⟩
  refine (steps_any lev e me w1.heap.size eb n wb nw nw n r c ws hR hb2 ⟨cs, hb0, hv⟩ hn hEn HN hnw ⟨by omega, by omega, by omega, by omega⟩ ⟨by omega, by omega, by omega, by omega⟩ hrc hcn (Nat.le_refl _) (by omega) (by omega) (fun j hj => (hH.fe.kept kX (fun e => e)).cell j hj) (fun j hj => (hH.fw.kept kX (fun e => e)).cell j hj) hlim.1 hlim.2).mono ?_
  rintro _ Y ⟨rfl, kY, B, G, h1, h2, h3⟩
  exact ⟨rfl, kX.trans kY (fun j hj e => by rcases e with e | e | e <;> omega), B, G, h1, h2, h3⟩

theorem allXp_len (lev e : Int) (n r c eb eb2 : Nat) (me : Int) (ws : List Wr) (nw : Nat) (hn : n ≤ 512) (hnw : nw ≤ 512) : (allXp lev e n r c eb eb2 me ws nw).length ≤ 300000 := by
  unfold allXp
  rw [List.length_append, List.length_map, tag_len]
  have := stps_len r c n (decide (e < me)) hn
  have := expTo_len lev e r c n ws nw
  omega
theorem allEv_ok (lev e : Int) (n r c : Nat) (me : Int) (ws : List Wr) (nw : Nat) (hcn : c ≤ n) : ∀ g ∈ allEv lev e r c n me ws nw, g.k ≤ n ∧ g.ws.length = ws.length := by
  intro g hg
  unfold allEv at hg
  rcases List.mem_append.1 hg with h | h
  · have : ∀ j, ∀ g ∈ endsTo lev e r c n ws j, g.k ≤ n ∧ g.ws.length = ws.length := by
      intro j
      induction j with
      | zero => intro g hg; simp [endsTo] at hg
      | succ j ih =>
        intro g hg
        simp only [endsTo] at hg
        rcases List.mem_append.1 hg with h | h
        · exact ih g h
        · cases hw : ws[j]? with
          | none => rw [hw] at h; simp at h
          | some w =>
            rw [hw] at h
            simp only [endAt] at h
            split at h
            · rcases List.mem_append.1 h with h | h
              · split at h
                · simp only [List.mem_singleton] at h
                  subst h
                  exact ⟨Nat.le_refl _, stSet_len _ _ _⟩
                · simp at h
              · simp only [List.mem_singleton] at h
                subst h
                exact ⟨Nat.le_refl _, stSet_len _ _ _⟩
            · simp at h
    exact this nw g h
  · obtain ⟨x, hx, rfl⟩ := List.mem_map.1 h
    unfold stps at hx
    rcases List.mem_append.1 hx with h | h
    · obtain ⟨y, _, rfl⟩ := List.mem_map.1 h
      exact ⟨Nat.le_refl _, rfl⟩
    · split at h
      · obtain ⟨j, hj, rfl⟩ := List.mem_map.1 h
        have := List.mem_range.1 hj
        exact ⟨by simp only [evS]; omega, rfl⟩
      · simp at h
theorem allXp_ok (lev e : Int) (n r c eb eb2 : Nat) (me : Int) (ws : List Wr) (nw : Nat) (hcn : c ≤ n) : ∀ p ∈ allXp lev e n r c eb eb2 me ws nw, p.1.k ≤ p.2.2 ∧ (p.2.1 = eb ∨ p.2.1 = eb2) := by
  intro p hp
  unfold allXp at hp
  rcases List.mem_append.1 hp with h | h
  · obtain ⟨x, hx, rfl⟩ := List.mem_map.1 h
    refine ⟨?_, Or.inl rfl⟩
    have : ∀ j, ∀ x ∈ expTo lev e r c n ws j, x.k = n := by
      intro j
      induction j with
      | zero => intro g hg; simp [expTo] at hg
      | succ j ih =>
        intro g hg
        simp only [expTo] at hg
        rcases List.mem_append.1 hg with h | h
        · exact ih g h
        · cases hw : ws[j]? with
          | none => rw [hw] at h; simp at h
          | some w =>
            rw [hw] at h
            simp only [xpE] at h
            split at h
            · simp only [List.mem_cons, List.not_mem_nil, or_false] at h
              rcases h with rfl | rfl <;> rfl
            · simp at h
    exact Nat.le_of_eq (this nw x hx)
  · obtain ⟨x, hx, rfl⟩ := List.mem_map.1 h
    unfold stps at hx
    rcases List.mem_append.1 hx with h | h
    · obtain ⟨y, _, rfl⟩ := List.mem_map.1 h
      exact ⟨Nat.le_refl _, Or.inl rfl⟩
    · split at h
      · obtain ⟨j, hj, rfl⟩ := List.mem_map.1 h
        have := List.mem_range.1 hj
        exact ⟨by simp only [xpS]; omega, Or.inr rfl⟩
      · simp at h

set_option maxHeartbeats 4000000 in
theorem lawC {w1 : World} {rb lb : Nat} {lim : Int} {B ng rcap nx xcap wb2 nw : Nat} {Ar Ax : Option Addr} {ws : List Wr} {E : List (ByteArray × ByteArray)} {G : List Ev} {us : List (Value × Value × Value)} {X : List (Xp × Nat × Nat)} {w0 : World} (W : World) (A : List Ev) (hlim : 0 ≤ lim) (HB : Hid (Below W.heap.size W w0)) (HM : Hid (Mt w1 rb lb lim B ng rcap nx xcap wb2 nw Ar Ax ws E G us X w0)) (HA : Hid (G <+: A ∧ ((G = A ∧ more lim G.length) ∨ (lim ≠ 0 ∧ (G.length : Int) = lim)))) (HAl : Hid (Al ws (X.map (·.1)) A)) (hng : ng ≤ 300000) (hnx : nx ≤ 300000) :
    Code.wp Ybad.prog ((Ybad.f3.body.bind (fromR 81)).getD .skip) (Go.bodyPost Ybad.prog Ybad.f3 fun e' W' => e' = .returned (.bool true) ∧ Below W.heap.size W W') ⟨List.toArray (s0 :: s1 :: s2 :: s3 :: s4 :: s5 :: s6 :: s7 :: s8 :: s9 :: s10 :: s11 :: s12 :: s13 :: s14 :: s15 :: s16 :: s17 :: s18 :: s19 :: s20 :: s21 :: s22 :: s23 :: s24 :: s25 :: s26 :: s27 :: s28 :: s29 :: (.slice (some ⟨wb2, 0, none⟩) nw nw) :: s31 :: (.pointer (some ⟨lb, 0, none⟩)) :: s33 :: s34 :: (.pointer (some ⟨rb, 0, none⟩)) :: s36 :: s37 :: s38 :: s39 :: (.slice Ax nx xcap) :: s41 :: s42 :: s43 :: s44 :: s45 :: s46 :: s47 :: s48 :: s49 :: s50 :: s51 :: s52 :: s53 :: s54 :: s55 :: s56 :: s57 :: s58 :: s59 :: s60 :: s61 :: s62 :: s63 :: s64 :: s65 :: s66 :: s67 :: s68 :: s69 :: s70 :: s71 :: s72 :: s73 :: s74 :: s75 :: s76 :: s77 :: s78 :: s79 :: s80 :: s81 :: s82 :: s83 :: s84 :: s85 :: s86 :: s87 :: s88 :: s89 :: s90 :: s91 :: s92 :: s93 :: s94 :: s95 :: s96 :: s97 :: s98 :: s99 :: s100 :: s101 :: s102 :: s103 :: s104 :: s105 :: s106 :: s107 :: s108 :: s109 :: s110 :: s111 :: s112 :: s113 :: s114 :: s115 :: s116 :: s117 :: s118 :: s119 :: s120 :: s121 :: s122 :: s123 :: s124 :: s125 :: s126 :: s127 :: s128 :: s129 :: s130 :: s131 :: s132 :: s133 :: s134 :: s135 :: s136 :: s137 :: s138 :: s139 :: s140 :: s141 :: s142 :: s143 :: s144 :: s145 :: s146 :: s147 :: s148 :: s149 :: s150 :: s151 :: s152 :: s153 :: s154 :: s155 :: s156 :: s157 :: s158 :: s159 :: s160 :: s161 :: s162 :: s163 :: s164 :: s165 :: s166 :: s167 :: s168 :: s169 :: s170 :: s171 :: s172 :: s173 :: s174 :: s175 :: s176 :: s177 :: s178 :: s179 :: s180 :: s181 :: s182 :: s183 :: s184 :: s185 :: s186 :: s187 :: s188 :: s189 :: s190 :: s191 :: s192 :: s193 :: s194 :: s195 :: s196 :: s197 :: s198 :: s199 :: s200 :: s201 :: s202 :: s203 :: s204 :: s205 :: s206 :: s207 :: s208 :: s209 :: s210 :: s211 :: s212 :: s213 :: s214 :: s215 :: s216 :: s217 :: s218 :: s219 :: s220 :: s221 :: s222 :: s223 :: s224 :: s225 :: s226 :: s227 :: s228 :: s229 :: s230 :: s231 :: s232 :: s233 :: s234 :: s235 :: s236 :: s237 :: s238 :: s239 :: s240 :: s241 :: s242 :: s243 :: s244 :: s245 :: s246 :: s247 :: s248 :: s249 :: s250 :: s251 :: s252 :: s253 :: s254 :: s255 :: s256 :: s257 :: s258 :: s259 :: s260 :: s261 :: s262 :: s263 :: s264 :: s265 :: s266 :: s267 :: s268 :: s269 :: s270 :: s271 :: s272 :: s273 :: s274 :: s275 :: s276 :: s277 :: s278 :: s279 :: s280 :: s281 :: s282 :: s283 :: s284 :: s285 :: s286 :: s287 :: s288 :: s289 :: s290 :: s291 :: s292 :: s293 :: s294 :: s295 :: s296 :: s297 :: s298 :: s299 :: s300 :: s301 :: s302 :: s303 :: s304 :: s305 :: s306 :: s307 :: s308 :: s309 :: s310 :: s311 :: s312 :: s313 :: s314 :: s315 :: s316 :: s317 :: s318 :: s319 :: s320 :: s321 :: s322 :: s323 :: s324 :: s325 :: s326 :: s327 :: s328 :: s329 :: s330 :: s331 :: s332 :: s333 :: s334 :: s335 :: s336 :: s337 :: s338 :: s339 :: s340 :: s341 :: s342 :: s343 :: s344 :: s345 :: s346 :: s347 :: s348 :: s349 :: s350 :: s351 :: s352 :: s353 :: s354 :: s355 :: s356 :: s357 :: s358 :: s359 :: s360 :: s361 :: s362 :: s363 :: s364 :: s365 :: s366 :: s367 :: s368 :: s369 :: s370 :: s371 :: s372 :: s373 :: s374 :: s375 :: s376 :: s377 :: s378 :: s379 :: s380 :: s381 :: s382 :: s383 :: s384 :: s385 :: s386 :: s387 :: s388 :: []), []⟩ w0 := by
  conv => arg 2; whnf
  have fin : ∀ w', Kept (fun _ => False) w0 w' → Below W.heap.size W w' := fun w' k => HB.out.trans (k.below (fun _ _ e => e) HB.out.size)
  go_wp2
  refine lp9 A hlim HM HA HAl hng hnx (fun _ _ _ _ _ h => h) (fun a' w' hx => ?_) (fun a' w' hx => ?_)
  · obtain ⟨u16, hx⟩ := hx; obtain ⟨u48, hx⟩ := hx; obtain ⟨u49, hx⟩ := hx; obtain ⟨u340, hx⟩ := hx; obtain ⟨u341, hx⟩ := hx; obtain ⟨u342, hx⟩ := hx; obtain ⟨u343, hx⟩ := hx; obtain ⟨u344, hx⟩ := hx; obtain ⟨u345, hx⟩ := hx; obtain ⟨u346, hx⟩ := hx; obtain ⟨u347, hx⟩ := hx; obtain ⟨u348, hx⟩ := hx; obtain ⟨u349, hx⟩ := hx; obtain ⟨u350, hx⟩ := hx; obtain ⟨u351, hx⟩ := hx; obtain ⟨u352, hx⟩ := hx; obtain ⟨u353, hx⟩ := hx; obtain ⟨u354, hx⟩ := hx; obtain ⟨u355, hx⟩ := hx; obtain ⟨u356, hx⟩ := hx; obtain ⟨u357, hx⟩ := hx; obtain ⟨u358, hx⟩ := hx; obtain ⟨u359, hx⟩ := hx; obtain ⟨u360, hx⟩ := hx; obtain ⟨u361, hx⟩ := hx; obtain ⟨u362, hx⟩ := hx; obtain ⟨u363, hx⟩ := hx; obtain ⟨u364, hx⟩ := hx; obtain ⟨u365, hx⟩ := hx; obtain ⟨u366, hx⟩ := hx; obtain ⟨u367, hx⟩ := hx; obtain ⟨u368, hx⟩ := hx; obtain ⟨u369, hx⟩ := hx; obtain ⟨u370, hx⟩ := hx; obtain ⟨u371, hx⟩ := hx; obtain ⟨u372, hx⟩ := hx; obtain ⟨u373, hx⟩ := hx; obtain ⟨u374, hx⟩ := hx
    obtain ⟨hx, rfl⟩ := hx
    obtain ⟨e1, k1⟩ := hx.out
    clear hx
    subst e1
    go_ret
    exact ⟨rfl, fin _ k1⟩
  · obtain ⟨u16, hx⟩ := hx; obtain ⟨u48, hx⟩ := hx; obtain ⟨u49, hx⟩ := hx; obtain ⟨u340, hx⟩ := hx; obtain ⟨u341, hx⟩ := hx; obtain ⟨u342, hx⟩ := hx; obtain ⟨u343, hx⟩ := hx; obtain ⟨u344, hx⟩ := hx; obtain ⟨u345, hx⟩ := hx; obtain ⟨u346, hx⟩ := hx; obtain ⟨u347, hx⟩ := hx; obtain ⟨u348, hx⟩ := hx; obtain ⟨u349, hx⟩ := hx; obtain ⟨u350, hx⟩ := hx; obtain ⟨u351, hx⟩ := hx; obtain ⟨u352, hx⟩ := hx; obtain ⟨u353, hx⟩ := hx; obtain ⟨u354, hx⟩ := hx; obtain ⟨u355, hx⟩ := hx; obtain ⟨u356, hx⟩ := hx; obtain ⟨u357, hx⟩ := hx; obtain ⟨u358, hx⟩ := hx; obtain ⟨u359, hx⟩ := hx; obtain ⟨u360, hx⟩ := hx; obtain ⟨u361, hx⟩ := hx; obtain ⟨u362, hx⟩ := hx; obtain ⟨u363, hx⟩ := hx; obtain ⟨u364, hx⟩ := hx; obtain ⟨u365, hx⟩ := hx; obtain ⟨u366, hx⟩ := hx; obtain ⟨u367, hx⟩ := hx; obtain ⟨u368, hx⟩ := hx; obtain ⟨u369, hx⟩ := hx; obtain ⟨u370, hx⟩ := hx; obtain ⟨u371, hx⟩ := hx; obtain ⟨u372, hx⟩ := hx; obtain ⟨u373, hx⟩ := hx; obtain ⟨u374, hx⟩ := hx
    obtain ⟨hx, rfl⟩ := hx
    obtain ⟨e1, k1, hz⟩ := hx.out
    clear hx
    subst e1
    have hb0 : Boxed w' rb 68 (.slice Ar ng rcap) := k1.obj HM.out.box (fun e => e)
    have hl0 : Boxed w' lb 3 (.int .i64 lim) := k1.obj HM.out.lbx (fun e => e)
    have hb := hb0.cell
    have hl := hl0.cell
    clear hb0 hl0
    have hf := fin _ k1
    clear k1 fin
    by_cases h0 : lim = 0
    · subst h0
      clear hz
      go_wp2
      go_ret
      exact ⟨rfl, hf⟩
    · have hz' : (ng : Int) ≤ lim := by omega
      clear hz
      go_wp2
      go_ret
      exact ⟨rfl, hf⟩
end Go.Proofs.YbulkejpeDoor
