/- The law's ninth loop: the match. -/
import Derived.Test.YbulkejpeDoorLc
namespace Go.Proofs.YbulkejpeDoor
open Go Go.ChangeShapes Go.WideShapes Go.ChangeAt Go.RowKit
set_option maxRecDepth 1000000
variable {s0 s1 s2 s3 s4 s5 s6 s7 s8 s9 s10 s11 s12 s13 s14 s15 s16 s17 s18 s19 s20 s21 s22 s23 s24 s25 s26 s27 s28 s29 s30 s31 s32 s33 s34 s35 s36 s37 s38 s39 s40 s41 s42 s43 s44 s45 s46 s47 s48 s49 s50 s51 s52 s53 s54 s55 s56 s57 s58 s59 s60 s61 s62 s63 s64 s65 s66 s67 s68 s69 s70 s71 s72 s73 s74 s75 s76 s77 s78 s79 s80 s81 s82 s83 s84 s85 s86 s87 s88 s89 s90 s91 s92 s93 s94 s95 s96 s97 s98 s99 s100 s101 s102 s103 s104 s105 s106 s107 s108 s109 s110 s111 s112 s113 s114 s115 s116 s117 s118 s119 s120 s121 s122 s123 s124 s125 s126 s127 s128 s129 s130 s131 s132 s133 s134 s135 s136 s137 s138 s139 s140 s141 s142 s143 s144 s145 s146 s147 s148 s149 s150 s151 s152 s153 s154 s155 s156 s157 s158 s159 s160 s161 s162 s163 s164 s165 s166 s167 s168 s169 s170 s171 s172 s173 s174 s175 s176 s177 s178 s179 s180 s181 s182 s183 s184 s185 s186 s187 s188 s189 s190 s191 s192 s193 s194 s195 s196 s197 s198 s199 s200 s201 s202 s203 s204 s205 s206 s207 s208 s209 s210 s211 s212 s213 s214 s215 s216 s217 s218 s219 s220 s221 s222 s223 s224 s225 s226 s227 s228 s229 s230 s231 s232 s233 s234 s235 s236 s237 s238 s239 s240 s241 s242 s243 s244 s245 s246 s247 s248 s249 s250 s251 s252 s253 s254 s255 s256 s257 s258 s259 s260 s261 s262 s263 s264 s265 s266 s267 s268 s269 s270 s271 s272 s273 s274 s275 s276 s277 s278 s279 s280 s281 s282 s283 s284 s285 s286 s287 s288 s289 s290 s291 s292 s293 s294 s295 s296 s297 s298 s299 s300 s301 s302 s303 s304 s305 s306 s307 s308 s309 s310 s311 s312 s313 s314 s315 s316 s317 s318 s319 s320 s321 s322 s323 s324 s325 s326 s327 s328 s329 s330 s331 s332 s333 s334 s335 s336 s337 s338 s339 s340 s341 s342 s343 s344 s345 s346 s347 s348 s349 s350 s351 s352 s353 s354 s355 s356 s357 s358 s359 s360 s361 s362 s363 s364 s365 s366 s367 s368 s369 s370 s371 s372 s373 s374 s375 s376 s377 s378 s379 s380 s381 s382 s383 s384 s385 s386 s387 s388 : Value}

/-- What the match reads. -/
structure Mt (w1 : World) (rb lb : Nat) (lim : Int) (B ng rcap nx xcap wb2 nw : Nat) (Ar Ax : Option Addr) (ws : List Wr) (E : List (ByteArray × ByteArray)) (G : List Ev) (us : List (Value × Value × Value)) (X : List (Xp × Nat × Nat)) (w0 : World) : Prop where
  box : Boxed w0 rb 68 (.slice Ar ng rcap)
  lbx : Boxed w0 lb 3 (.int .i64 lim)
  gl : G.length = ng
  ul : us.length = ng
  xl : X.length = nx
  row : w0.ownsRow B 75 14 (.slice Ar ng rcap) ng (gcells G us)
  xrow : w0.ownsRow w1.heap.size 80 15 (.slice Ax nx xcap) nx (xcells X)
  sub : ∀ i (hi : i < G.length) (hu : i < us.length), w0.ownsRow B 28 2 us[i].2.1 G[i].k (ecells (E.take G[i].k)) ∧ w0.ownsRow B 39 5 us[i].2.2 G[i].ws.length (wcells G[i].ws)
  gk : ∀ g ∈ G, g.k ≤ E.length ∧ g.ws.length ≤ 512
  xk : ∀ p ∈ X, p.1.k ≤ p.2.2 ∧ Fill w0 p.2.1 28 2 E.length E.length (ecells E)
  fw : Fill w0 wb2 39 5 nw nw (wcells ws)
  wl : ws.length = nw
  w5 : nw ≤ 512
  e5 : E.length ≤ 512
variable {w1 : World} {rb lb : Nat} {lim : Int} {B ng rcap nx xcap wb2 nw : Nat} {Ar Ax : Option Addr} {ws : List Wr} {E : List (ByteArray × ByteArray)} {G : List Ev} {us : List (Value × Value × Value)} {X : List (Xp × Nat × Nat)} {w0 : World}
theorem Mt.kept {W : World} (h : Mt w1 rb lb lim B ng rcap nx xcap wb2 nw Ar Ax ws E G us X w0) (k : Kept (fun _ => False) w0 W) : Mt w1 rb lb lim B ng rcap nx xcap wb2 nw Ar Ax ws E G us X W :=
  ⟨k.obj h.box (fun e => e), k.obj h.lbx (fun e => e), h.gl, h.ul, h.xl, own_kept h.row k (fun _ _ e => e), own_kept h.xrow k (fun _ _ e => e), fun i hi hu => ⟨own_kept (h.sub i hi hu).1 k (fun _ _ e => e), own_kept (h.sub i hi hu).2 k (fun _ _ e => e)⟩, h.gk, fun p hp => ⟨(h.xk p hp).1, (h.xk p hp).2.kept k (fun e => e)⟩, h.fw.kept k (fun e => e), h.wl, h.w5, h.e5⟩

theorem drop_at {α : Type} {l : List α} {j : Nat} {a : α} (h : l[j]? = some a) : l.drop j = a :: l.drop (j + 1) := by
  obtain ⟨hj, rfl⟩ := List.getElem?_eq_some_iff.1 h
  exact List.drop_eq_getElem_cons hj

set_option maxHeartbeats 4000000 in
theorem lp9 (A : List Ev) (hlim : 0 ≤ lim) (HM : Hid (Mt w1 rb lb lim B ng rcap nx xcap wb2 nw Ar Ax ws E G us X w0)) (HA : Hid (G <+: A ∧ ((G = A ∧ more lim G.length) ∨ (lim ≠ 0 ∧ (G.length : Int) = lim)))) (HAl : Hid (Al ws (X.map (·.1)) A)) (hng : ng ≤ 300000) (hnx : nx ≤ 300000) {Q : Exit → Act → World → Prop} (HP : Hid (∀ c (a : Act) (d : Tmp) (v : Value) (w : World), Q (.panic c) (a.put (some d) v) w → Q (.panic c) a w))
    (hret : ∀ a' w', (∃ u16 u48 u49 u340 u341 u342 u343 u344 u345 u346 u347 u348 u349 u350 u351 u352 u353 u354 u355 u356 u357 u358 u359 u360 u361 u362 u363 u364 u365 u366 u367 u368 u369 u370 u371 u372 u373 u374 : Value, (Hid (u16 = .bool true ∧ Kept (fun _ => False) w0 w')) ∧ a' = ⟨List.toArray (s0 :: s1 :: s2 :: s3 :: s4 :: s5 :: s6 :: s7 :: s8 :: s9 :: s10 :: s11 :: s12 :: s13 :: s14 :: s15 :: u16 :: s17 :: s18 :: s19 :: s20 :: s21 :: s22 :: s23 :: s24 :: s25 :: s26 :: s27 :: s28 :: s29 :: (.slice (some ⟨wb2, 0, none⟩) nw nw) :: s31 :: (.pointer (some ⟨lb, 0, none⟩)) :: s33 :: s34 :: (.pointer (some ⟨rb, 0, none⟩)) :: s36 :: s37 :: s38 :: s39 :: (.slice Ax nx xcap) :: s41 :: s42 :: s43 :: s44 :: s45 :: s46 :: s47 :: u48 :: u49 :: s50 :: s51 :: s52 :: s53 :: s54 :: s55 :: s56 :: s57 :: s58 :: s59 :: s60 :: s61 :: s62 :: s63 :: s64 :: s65 :: s66 :: s67 :: s68 :: s69 :: s70 :: s71 :: s72 :: s73 :: s74 :: s75 :: s76 :: s77 :: s78 :: s79 :: s80 :: s81 :: s82 :: s83 :: s84 :: s85 :: s86 :: s87 :: s88 :: s89 :: s90 :: s91 :: s92 :: s93 :: s94 :: s95 :: s96 :: s97 :: s98 :: s99 :: s100 :: s101 :: s102 :: s103 :: s104 :: s105 :: s106 :: s107 :: s108 :: s109 :: s110 :: s111 :: s112 :: s113 :: s114 :: s115 :: s116 :: s117 :: s118 :: s119 :: s120 :: s121 :: s122 :: s123 :: s124 :: s125 :: s126 :: s127 :: s128 :: s129 :: s130 :: s131 :: s132 :: s133 :: s134 :: s135 :: s136 :: s137 :: s138 :: s139 :: s140 :: s141 :: s142 :: s143 :: s144 :: s145 :: s146 :: s147 :: s148 :: s149 :: s150 :: s151 :: s152 :: s153 :: s154 :: s155 :: s156 :: s157 :: s158 :: s159 :: s160 :: s161 :: s162 :: s163 :: s164 :: s165 :: s166 :: s167 :: s168 :: s169 :: s170 :: s171 :: s172 :: s173 :: s174 :: s175 :: s176 :: s177 :: s178 :: s179 :: s180 :: s181 :: s182 :: s183 :: s184 :: s185 :: s186 :: s187 :: s188 :: s189 :: s190 :: s191 :: s192 :: s193 :: s194 :: s195 :: s196 :: s197 :: s198 :: s199 :: s200 :: s201 :: s202 :: s203 :: s204 :: s205 :: s206 :: s207 :: s208 :: s209 :: s210 :: s211 :: s212 :: s213 :: s214 :: s215 :: s216 :: s217 :: s218 :: s219 :: s220 :: s221 :: s222 :: s223 :: s224 :: s225 :: s226 :: s227 :: s228 :: s229 :: s230 :: s231 :: s232 :: s233 :: s234 :: s235 :: s236 :: s237 :: s238 :: s239 :: s240 :: s241 :: s242 :: s243 :: s244 :: s245 :: s246 :: s247 :: s248 :: s249 :: s250 :: s251 :: s252 :: s253 :: s254 :: s255 :: s256 :: s257 :: s258 :: s259 :: s260 :: s261 :: s262 :: s263 :: s264 :: s265 :: s266 :: s267 :: s268 :: s269 :: s270 :: s271 :: s272 :: s273 :: s274 :: s275 :: s276 :: s277 :: s278 :: s279 :: s280 :: s281 :: s282 :: s283 :: s284 :: s285 :: s286 :: s287 :: s288 :: s289 :: s290 :: s291 :: s292 :: s293 :: s294 :: s295 :: s296 :: s297 :: s298 :: s299 :: s300 :: s301 :: s302 :: s303 :: s304 :: s305 :: s306 :: s307 :: s308 :: s309 :: s310 :: s311 :: s312 :: s313 :: s314 :: s315 :: s316 :: s317 :: s318 :: s319 :: s320 :: s321 :: s322 :: s323 :: s324 :: s325 :: s326 :: s327 :: s328 :: s329 :: s330 :: s331 :: s332 :: s333 :: s334 :: s335 :: s336 :: s337 :: s338 :: s339 :: u340 :: u341 :: u342 :: u343 :: u344 :: u345 :: u346 :: u347 :: u348 :: u349 :: u350 :: u351 :: u352 :: u353 :: u354 :: u355 :: u356 :: u357 :: u358 :: u359 :: u360 :: u361 :: u362 :: u363 :: u364 :: u365 :: u366 :: u367 :: u368 :: u369 :: u370 :: u371 :: u372 :: u373 :: u374 :: s375 :: s376 :: s377 :: s378 :: s379 :: s380 :: s381 :: s382 :: s383 :: s384 :: s385 :: s386 :: s387 :: s388 :: []), []⟩) → Q .ret a' w')
    (hexit : ∀ a' w', (∃ u16 u48 u49 u340 u341 u342 u343 u344 u345 u346 u347 u348 u349 u350 u351 u352 u353 u354 u355 u356 u357 u358 u359 u360 u361 u362 u363 u364 u365 u366 u367 u368 u369 u370 u371 u372 u373 u374 : Value, (Hid (u48 = .int .i64 (ng : Int) ∧ Kept (fun _ => False) w0 w' ∧ (lim = 0 ∨ (ng : Int) ≤ lim))) ∧ a' = ⟨List.toArray (s0 :: s1 :: s2 :: s3 :: s4 :: s5 :: s6 :: s7 :: s8 :: s9 :: s10 :: s11 :: s12 :: s13 :: s14 :: s15 :: u16 :: s17 :: s18 :: s19 :: s20 :: s21 :: s22 :: s23 :: s24 :: s25 :: s26 :: s27 :: s28 :: s29 :: (.slice (some ⟨wb2, 0, none⟩) nw nw) :: s31 :: (.pointer (some ⟨lb, 0, none⟩)) :: s33 :: s34 :: (.pointer (some ⟨rb, 0, none⟩)) :: s36 :: s37 :: s38 :: s39 :: (.slice Ax nx xcap) :: s41 :: s42 :: s43 :: s44 :: s45 :: s46 :: s47 :: u48 :: u49 :: s50 :: s51 :: s52 :: s53 :: s54 :: s55 :: s56 :: s57 :: s58 :: s59 :: s60 :: s61 :: s62 :: s63 :: s64 :: s65 :: s66 :: s67 :: s68 :: s69 :: s70 :: s71 :: s72 :: s73 :: s74 :: s75 :: s76 :: s77 :: s78 :: s79 :: s80 :: s81 :: s82 :: s83 :: s84 :: s85 :: s86 :: s87 :: s88 :: s89 :: s90 :: s91 :: s92 :: s93 :: s94 :: s95 :: s96 :: s97 :: s98 :: s99 :: s100 :: s101 :: s102 :: s103 :: s104 :: s105 :: s106 :: s107 :: s108 :: s109 :: s110 :: s111 :: s112 :: s113 :: s114 :: s115 :: s116 :: s117 :: s118 :: s119 :: s120 :: s121 :: s122 :: s123 :: s124 :: s125 :: s126 :: s127 :: s128 :: s129 :: s130 :: s131 :: s132 :: s133 :: s134 :: s135 :: s136 :: s137 :: s138 :: s139 :: s140 :: s141 :: s142 :: s143 :: s144 :: s145 :: s146 :: s147 :: s148 :: s149 :: s150 :: s151 :: s152 :: s153 :: s154 :: s155 :: s156 :: s157 :: s158 :: s159 :: s160 :: s161 :: s162 :: s163 :: s164 :: s165 :: s166 :: s167 :: s168 :: s169 :: s170 :: s171 :: s172 :: s173 :: s174 :: s175 :: s176 :: s177 :: s178 :: s179 :: s180 :: s181 :: s182 :: s183 :: s184 :: s185 :: s186 :: s187 :: s188 :: s189 :: s190 :: s191 :: s192 :: s193 :: s194 :: s195 :: s196 :: s197 :: s198 :: s199 :: s200 :: s201 :: s202 :: s203 :: s204 :: s205 :: s206 :: s207 :: s208 :: s209 :: s210 :: s211 :: s212 :: s213 :: s214 :: s215 :: s216 :: s217 :: s218 :: s219 :: s220 :: s221 :: s222 :: s223 :: s224 :: s225 :: s226 :: s227 :: s228 :: s229 :: s230 :: s231 :: s232 :: s233 :: s234 :: s235 :: s236 :: s237 :: s238 :: s239 :: s240 :: s241 :: s242 :: s243 :: s244 :: s245 :: s246 :: s247 :: s248 :: s249 :: s250 :: s251 :: s252 :: s253 :: s254 :: s255 :: s256 :: s257 :: s258 :: s259 :: s260 :: s261 :: s262 :: s263 :: s264 :: s265 :: s266 :: s267 :: s268 :: s269 :: s270 :: s271 :: s272 :: s273 :: s274 :: s275 :: s276 :: s277 :: s278 :: s279 :: s280 :: s281 :: s282 :: s283 :: s284 :: s285 :: s286 :: s287 :: s288 :: s289 :: s290 :: s291 :: s292 :: s293 :: s294 :: s295 :: s296 :: s297 :: s298 :: s299 :: s300 :: s301 :: s302 :: s303 :: s304 :: s305 :: s306 :: s307 :: s308 :: s309 :: s310 :: s311 :: s312 :: s313 :: s314 :: s315 :: s316 :: s317 :: s318 :: s319 :: s320 :: s321 :: s322 :: s323 :: s324 :: s325 :: s326 :: s327 :: s328 :: s329 :: s330 :: s331 :: s332 :: s333 :: s334 :: s335 :: s336 :: s337 :: s338 :: s339 :: u340 :: u341 :: u342 :: u343 :: u344 :: u345 :: u346 :: u347 :: u348 :: u349 :: u350 :: u351 :: u352 :: u353 :: u354 :: u355 :: u356 :: u357 :: u358 :: u359 :: u360 :: u361 :: u362 :: u363 :: u364 :: u365 :: u366 :: u367 :: u368 :: u369 :: u370 :: u371 :: u372 :: u373 :: u374 :: s375 :: s376 :: s377 :: s378 :: s379 :: s380 :: s381 :: s382 :: s383 :: s384 :: s385 :: s386 :: s387 :: s388 :: []), []⟩) → Q (.exit 16) a' w') :
    Code.wp Ybad.prog ((Ybad.f3.body.bind (blk 16)).getD .skip) Q ⟨List.toArray (s0 :: s1 :: s2 :: s3 :: s4 :: s5 :: s6 :: s7 :: s8 :: s9 :: s10 :: s11 :: s12 :: s13 :: s14 :: s15 :: s16 :: s17 :: s18 :: s19 :: s20 :: s21 :: s22 :: s23 :: s24 :: s25 :: s26 :: s27 :: s28 :: s29 :: (.slice (some ⟨wb2, 0, none⟩) nw nw) :: s31 :: (.pointer (some ⟨lb, 0, none⟩)) :: s33 :: s34 :: (.pointer (some ⟨rb, 0, none⟩)) :: s36 :: s37 :: s38 :: s39 :: (.slice Ax nx xcap) :: s41 :: s42 :: s43 :: s44 :: s45 :: s46 :: s47 :: (.int .i64 0) :: (.int .i64 0) :: s50 :: s51 :: s52 :: s53 :: s54 :: s55 :: s56 :: s57 :: s58 :: s59 :: s60 :: s61 :: s62 :: s63 :: s64 :: s65 :: s66 :: s67 :: s68 :: s69 :: s70 :: s71 :: s72 :: s73 :: s74 :: s75 :: s76 :: s77 :: s78 :: s79 :: s80 :: s81 :: s82 :: s83 :: s84 :: s85 :: s86 :: s87 :: s88 :: s89 :: s90 :: s91 :: s92 :: s93 :: s94 :: s95 :: s96 :: s97 :: s98 :: s99 :: s100 :: s101 :: s102 :: s103 :: s104 :: s105 :: s106 :: s107 :: s108 :: s109 :: s110 :: s111 :: s112 :: s113 :: s114 :: s115 :: s116 :: s117 :: s118 :: s119 :: s120 :: s121 :: s122 :: s123 :: s124 :: s125 :: s126 :: s127 :: s128 :: s129 :: s130 :: s131 :: s132 :: s133 :: s134 :: s135 :: s136 :: s137 :: s138 :: s139 :: s140 :: s141 :: s142 :: s143 :: s144 :: s145 :: s146 :: s147 :: s148 :: s149 :: s150 :: s151 :: s152 :: s153 :: s154 :: s155 :: s156 :: s157 :: s158 :: s159 :: s160 :: s161 :: s162 :: s163 :: s164 :: s165 :: s166 :: s167 :: s168 :: s169 :: s170 :: s171 :: s172 :: s173 :: s174 :: s175 :: s176 :: s177 :: s178 :: s179 :: s180 :: s181 :: s182 :: s183 :: s184 :: s185 :: s186 :: s187 :: s188 :: s189 :: s190 :: s191 :: s192 :: s193 :: s194 :: s195 :: s196 :: s197 :: s198 :: s199 :: s200 :: s201 :: s202 :: s203 :: s204 :: s205 :: s206 :: s207 :: s208 :: s209 :: s210 :: s211 :: s212 :: s213 :: s214 :: s215 :: s216 :: s217 :: s218 :: s219 :: s220 :: s221 :: s222 :: s223 :: s224 :: s225 :: s226 :: s227 :: s228 :: s229 :: s230 :: s231 :: s232 :: s233 :: s234 :: s235 :: s236 :: s237 :: s238 :: s239 :: s240 :: s241 :: s242 :: s243 :: s244 :: s245 :: s246 :: s247 :: s248 :: s249 :: s250 :: s251 :: s252 :: s253 :: s254 :: s255 :: s256 :: s257 :: s258 :: s259 :: s260 :: s261 :: s262 :: s263 :: s264 :: s265 :: s266 :: s267 :: s268 :: s269 :: s270 :: s271 :: s272 :: s273 :: s274 :: s275 :: s276 :: s277 :: s278 :: s279 :: s280 :: s281 :: s282 :: s283 :: s284 :: s285 :: s286 :: s287 :: s288 :: s289 :: s290 :: s291 :: s292 :: s293 :: s294 :: s295 :: s296 :: s297 :: s298 :: s299 :: s300 :: s301 :: s302 :: s303 :: s304 :: s305 :: s306 :: s307 :: s308 :: s309 :: s310 :: s311 :: s312 :: s313 :: s314 :: s315 :: s316 :: s317 :: s318 :: s319 :: s320 :: s321 :: s322 :: s323 :: s324 :: s325 :: s326 :: s327 :: s328 :: s329 :: s330 :: s331 :: s332 :: s333 :: s334 :: s335 :: s336 :: s337 :: s338 :: s339 :: s340 :: s341 :: s342 :: s343 :: s344 :: s345 :: s346 :: s347 :: s348 :: s349 :: s350 :: s351 :: s352 :: s353 :: s354 :: s355 :: s356 :: s357 :: s358 :: s359 :: s360 :: s361 :: s362 :: s363 :: s364 :: s365 :: s366 :: s367 :: s368 :: s369 :: s370 :: s371 :: s372 :: s373 :: s374 :: s375 :: s376 :: s377 :: s378 :: s379 :: s380 :: s381 :: s382 :: s383 :: s384 :: s385 :: s386 :: s387 :: s388 :: []), []⟩ w0 := by
  conv => arg 2; whnf
  have HR := Hid.mk' hret
  clear hret
  go_loopw [48, 49] (fun vj vk wr => ∃ j k : Nat, j ≤ ng ∧ k ≤ nx ∧ vj = .int .i64 (j : Int) ∧ vk = .int .i64 (k : Int) ∧ Hid (Kept (fun _ => False) w0 wr ∧ Al ws ((X.map (·.1)).drop k) (A.drop j))) (fun _ vk _ => nx - (intOf vk).toNat)
  case atStart => exact ⟨0, 0, Nat.zero_le _, Nat.zero_le _, rfl, rfl, Kept.refl _ _, HAl.out⟩
  case round =>
    obtain ⟨j, k, hj, hk, rfl, rfl, HK⟩ := hrel
    have M := HM.out.kept HK.out.1
    have hbx := M.box.cell
    have hlx := M.lbx.cell
    by_cases hlt : k < nx
    · have hltI : (k : Int) < (nx : Int) := by omega
      obtain ⟨p, hp⟩ : ∃ p, X[k]? = some p := ⟨X[k]'(by rw [M.xl]; exact hlt), List.getElem?_eq_getElem _⟩
      obtain ⟨x, xb, xc⟩ := p
      have hdx : (X.map (·.1)).drop k = x :: (X.map (·.1)).drop (k + 1) := drop_at (by simp [hp])
      by_cases hjn : j = ng
      · subst hjn
        have hl : lim ≠ 0 ∧ (j : Int) = lim := by
          rcases HA.out.2 with ⟨h1, _⟩ | h1
          · have h2 := HK.out.2
            have hA0 : A.drop j = [] := List.drop_eq_nil_of_le (by rw [← h1, M.gl]; exact Nat.le_refl _)
            rw [hdx, hA0] at h2
            cases h2
          · rw [M.gl] at h1
            exact h1
        obtain ⟨l1, l2⟩ := hl
        subst l2
        have hj0 : (0 : Int) < (j : Int) := by omega
        clear M hdx hp
        go_wp2
        all_goals
          refine HR.out _ _ ?_
          repeat apply Exists.intro
          exact ⟨⟨rfl, HK.out.1⟩, rfl⟩
      · have hjl : j < ng := by omega
        have hjI : ¬ (j : Int) = (ng : Int) := by omega
        have hjlI : (j : Int) < (ng : Int) := by omega
        have hjG : j < G.length := by rw [M.gl]; exact hjl
        have hju : j < us.length := by rw [M.ul]; exact hjl
        obtain ⟨g, hg⟩ : ∃ g, G[j]? = some g := ⟨G[j], List.getElem?_eq_getElem _⟩
        obtain ⟨u, hu⟩ : ∃ u, us[j]? = some u := ⟨us[j], List.getElem?_eq_getElem _⟩
        have hda : A.drop j = g :: A.drop (j + 1) := by
          obtain ⟨tl, htl⟩ := HA.out.1
          exact drop_at (by rw [← htl, List.getElem?_append_left hjG]; exact hg)
        have hsub := M.sub j hjG hju
        have eg : G[j] = g := by rw [List.getElem?_eq_getElem hjG] at hg; exact Option.some.inj hg
        have eu : us[j] = u := by rw [List.getElem?_eq_getElem hju] at hu; exact Option.some.inj hu
        rw [eg, eu] at hsub
        obtain ⟨Ar', rc', er, _, hrow⟩ := own_room M.row
        obtain ⟨rg, e1, hrg, hrc⟩ := hrow (j * 14) (by omega)
        obtain ⟨Ax', xc', ex, _, hxrow⟩ := own_room M.xrow
        obtain ⟨xg, e2, hxg, hxc⟩ := hxrow (k * 15) (by omega)
        simp only [Value.slice.injEq, true_and] at er ex
        obtain ⟨er1, er2⟩ := er
        obtain ⟨ex1, ex2⟩ := ex
        subst er1 er2 ex1 ex2 e1 e2
        have cG : ∀ o, o < 14 → wr.cell? ⟨rg, j * 14 + o, none⟩ = (g.cells u.1 u.2.1 u.2.2)[o]? := fun o ho => (hrc _ (by omega)).trans (gcells_at G us j g u hg hu o ho)
        have cX : ∀ o, o < 15 → wr.cell? ⟨xg, k * 15 + o, none⟩ = (x.cells xb xc)[o]? := fun o ho => (hxc _ (by omega)).trans (xcells_at hp o ho)
        have hxk := M.xk _ (List.mem_of_getElem? hp)
        have hgk := M.gk g (List.mem_of_getElem? hg)
        have HCall := Hid.mk' (fun W' (kk : Kept (fun _ => False) wr W') => csame_any g u.1 u.2.1 u.2.2 x xb xc wb2 nw nw B B ws E W' hgk.1 M.e5 (own_kept hsub.1 kk (fun _ _ e => e)) (own_kept hsub.2 kk (fun _ _ e => e)) hxk.1 (hxk.2.kept kk (fun e => e)) (M.fw.kept kk (fun e => e)) M.wl M.w5 hgk.2)
        have HD := Hid.mk' (And.intro hdx hda)
        have hS : wr.cell? ⟨rb, 0, none⟩ = some (.slice (some ⟨rg, 0, none⟩) ng rcap) ∧ wr.cell? ⟨rg, j * 14, none⟩ = some (.int .i64 g.m.o) ∧ wr.cell? ⟨rg, j * 14 + 1, none⟩ = some (.int .i64 g.m.k) ∧ wr.cell? ⟨rg, j * 14 + 2, none⟩ = some (.int .i64 g.m.v) ∧ wr.cell? ⟨rg, j * 14 + 3, none⟩ = some (.int .i64 g.m.rd) ∧ wr.cell? ⟨rg, j * 14 + 4, none⟩ = some (.int .i64 g.m.cm) ∧ wr.cell? ⟨rg, j * 14 + 5, none⟩ = some (.int .i64 g.m.kp) ∧ wr.cell? ⟨rg, j * 14 + 6, none⟩ = some (.int .i64 g.m.ep) ∧ wr.cell? ⟨rg, j * 14 + 7, none⟩ = some (.int .i64 g.lev) ∧ wr.cell? ⟨rg, j * 14 + 8, none⟩ = some u.1 ∧ wr.cell? ⟨rg, j * 14 + 9, none⟩ = some (.int .i64 g.r) ∧ wr.cell? ⟨rg, j * 14 + 10, none⟩ = some (.int .i64 g.c) ∧ wr.cell? ⟨rg, j * 14 + 11, none⟩ = some (.int .i64 g.e) ∧ wr.cell? ⟨rg, j * 14 + 12, none⟩ = some u.2.1 ∧ wr.cell? ⟨rg, j * 14 + 13, none⟩ = some u.2.2 ∧ wr.cell? ⟨xg, k * 15, none⟩ = some (.int .i64 x.m.o) ∧ wr.cell? ⟨xg, k * 15 + 1, none⟩ = some (.int .i64 x.m.k) ∧ wr.cell? ⟨xg, k * 15 + 2, none⟩ = some (.int .i64 x.m.v) ∧ wr.cell? ⟨xg, k * 15 + 3, none⟩ = some (.int .i64 x.m.rd) ∧ wr.cell? ⟨xg, k * 15 + 4, none⟩ = some (.int .i64 x.m.cm) ∧ wr.cell? ⟨xg, k * 15 + 5, none⟩ = some (.int .i64 x.m.kp) ∧ wr.cell? ⟨xg, k * 15 + 6, none⟩ = some (.int .i64 x.m.ep) ∧ wr.cell? ⟨xg, k * 15 + 7, none⟩ = some (.int .i64 x.lev) ∧ wr.cell? ⟨xg, k * 15 + 8, none⟩ = some (.slice (some ⟨xb, 0, none⟩) x.k xc) ∧ wr.cell? ⟨xg, k * 15 + 9, none⟩ = some (.int .i64 x.r) ∧ wr.cell? ⟨xg, k * 15 + 10, none⟩ = some (.int .i64 x.c) ∧ wr.cell? ⟨xg, k * 15 + 11, none⟩ = some (.int .i64 x.e) ∧ wr.cell? ⟨xg, k * 15 + 12, none⟩ = some (.int .i64 x.i) ∧ wr.cell? ⟨xg, k * 15 + 13, none⟩ = some (.int .i64 x.stt) ∧ wr.cell? ⟨xg, k * 15 + 14, none⟩ = some (.bool x.opt) := by
          refine ⟨hbx, ?_, ?_, ?_, ?_, ?_, ?_, ?_, ?_, ?_, ?_, ?_, ?_, ?_, ?_, ?_, ?_, ?_, ?_, ?_, ?_, ?_, ?_, ?_, ?_, ?_, ?_, ?_, ?_, ?_⟩
          · exact cG 0 (by omega)
          · exact cG 1 (by omega)
          · exact cG 2 (by omega)
          · exact cG 3 (by omega)
          · exact cG 4 (by omega)
          · exact cG 5 (by omega)
          · exact cG 6 (by omega)
          · exact cG 7 (by omega)
          · exact cG 8 (by omega)
          · exact cG 9 (by omega)
          · exact cG 10 (by omega)
          · exact cG 11 (by omega)
          · exact cG 12 (by omega)
          · exact cG 13 (by omega)
          · exact cX 0 (by omega)
          · exact cX 1 (by omega)
          · exact cX 2 (by omega)
          · exact cX 3 (by omega)
          · exact cX 4 (by omega)
          · exact cX 5 (by omega)
          · exact cX 6 (by omega)
          · exact cX 7 (by omega)
          · exact cX 8 (by omega)
          · exact cX 9 (by omega)
          · exact cX 10 (by omega)
          · exact cX 11 (by omega)
          · exact cX 12 (by omega)
          · exact cX 13 (by omega)
          · exact cX 14 (by omega)
        clear cG cX hxk hgk hsub eg eu hda hdx hp hg hu M hrow hxrow hrc hxc
        go_wp2
        refine wp_region_Z (fun w' => w'.cell? ⟨rb, 0, none⟩ = some (.slice (some ⟨rg, 0, none⟩) ng rcap) ∧ w'.cell? ⟨rg, j * 14, none⟩ = some (.int .i64 g.m.o) ∧ w'.cell? ⟨rg, j * 14 + 1, none⟩ = some (.int .i64 g.m.k) ∧ w'.cell? ⟨rg, j * 14 + 2, none⟩ = some (.int .i64 g.m.v) ∧ w'.cell? ⟨rg, j * 14 + 3, none⟩ = some (.int .i64 g.m.rd) ∧ w'.cell? ⟨rg, j * 14 + 4, none⟩ = some (.int .i64 g.m.cm) ∧ w'.cell? ⟨rg, j * 14 + 5, none⟩ = some (.int .i64 g.m.kp) ∧ w'.cell? ⟨rg, j * 14 + 6, none⟩ = some (.int .i64 g.m.ep) ∧ w'.cell? ⟨rg, j * 14 + 7, none⟩ = some (.int .i64 g.lev) ∧ w'.cell? ⟨rg, j * 14 + 8, none⟩ = some u.1 ∧ w'.cell? ⟨rg, j * 14 + 9, none⟩ = some (.int .i64 g.r) ∧ w'.cell? ⟨rg, j * 14 + 10, none⟩ = some (.int .i64 g.c) ∧ w'.cell? ⟨rg, j * 14 + 11, none⟩ = some (.int .i64 g.e) ∧ w'.cell? ⟨rg, j * 14 + 12, none⟩ = some u.2.1 ∧ w'.cell? ⟨rg, j * 14 + 13, none⟩ = some u.2.2 ∧ w'.cell? ⟨xg, k * 15, none⟩ = some (.int .i64 x.m.o) ∧ w'.cell? ⟨xg, k * 15 + 1, none⟩ = some (.int .i64 x.m.k) ∧ w'.cell? ⟨xg, k * 15 + 2, none⟩ = some (.int .i64 x.m.v) ∧ w'.cell? ⟨xg, k * 15 + 3, none⟩ = some (.int .i64 x.m.rd) ∧ w'.cell? ⟨xg, k * 15 + 4, none⟩ = some (.int .i64 x.m.cm) ∧ w'.cell? ⟨xg, k * 15 + 5, none⟩ = some (.int .i64 x.m.kp) ∧ w'.cell? ⟨xg, k * 15 + 6, none⟩ = some (.int .i64 x.m.ep) ∧ w'.cell? ⟨xg, k * 15 + 7, none⟩ = some (.int .i64 x.lev) ∧ w'.cell? ⟨xg, k * 15 + 8, none⟩ = some (.slice (some ⟨xb, 0, none⟩) x.k xc) ∧ w'.cell? ⟨xg, k * 15 + 9, none⟩ = some (.int .i64 x.r) ∧ w'.cell? ⟨xg, k * 15 + 10, none⟩ = some (.int .i64 x.c) ∧ w'.cell? ⟨xg, k * 15 + 11, none⟩ = some (.int .i64 x.e) ∧ w'.cell? ⟨xg, k * 15 + 12, none⟩ = some (.int .i64 x.i) ∧ w'.cell? ⟨xg, k * 15 + 13, none⟩ = some (.int .i64 x.stt) ∧ w'.cell? ⟨xg, k * 15 + 14, none⟩ = some (.bool x.opt)) 9 (by kernel_rfl) ?_
        have hS0 : wr.drew.cell? ⟨rb, 0, none⟩ = some (.slice (some ⟨rg, 0, none⟩) ng rcap) ∧ wr.drew.cell? ⟨rg, j * 14, none⟩ = some (.int .i64 g.m.o) ∧ wr.drew.cell? ⟨rg, j * 14 + 1, none⟩ = some (.int .i64 g.m.k) ∧ wr.drew.cell? ⟨rg, j * 14 + 2, none⟩ = some (.int .i64 g.m.v) ∧ wr.drew.cell? ⟨rg, j * 14 + 3, none⟩ = some (.int .i64 g.m.rd) ∧ wr.drew.cell? ⟨rg, j * 14 + 4, none⟩ = some (.int .i64 g.m.cm) ∧ wr.drew.cell? ⟨rg, j * 14 + 5, none⟩ = some (.int .i64 g.m.kp) ∧ wr.drew.cell? ⟨rg, j * 14 + 6, none⟩ = some (.int .i64 g.m.ep) ∧ wr.drew.cell? ⟨rg, j * 14 + 7, none⟩ = some (.int .i64 g.lev) ∧ wr.drew.cell? ⟨rg, j * 14 + 8, none⟩ = some u.1 ∧ wr.drew.cell? ⟨rg, j * 14 + 9, none⟩ = some (.int .i64 g.r) ∧ wr.drew.cell? ⟨rg, j * 14 + 10, none⟩ = some (.int .i64 g.c) ∧ wr.drew.cell? ⟨rg, j * 14 + 11, none⟩ = some (.int .i64 g.e) ∧ wr.drew.cell? ⟨rg, j * 14 + 12, none⟩ = some u.2.1 ∧ wr.drew.cell? ⟨rg, j * 14 + 13, none⟩ = some u.2.2 ∧ wr.drew.cell? ⟨xg, k * 15, none⟩ = some (.int .i64 x.m.o) ∧ wr.drew.cell? ⟨xg, k * 15 + 1, none⟩ = some (.int .i64 x.m.k) ∧ wr.drew.cell? ⟨xg, k * 15 + 2, none⟩ = some (.int .i64 x.m.v) ∧ wr.drew.cell? ⟨xg, k * 15 + 3, none⟩ = some (.int .i64 x.m.rd) ∧ wr.drew.cell? ⟨xg, k * 15 + 4, none⟩ = some (.int .i64 x.m.cm) ∧ wr.drew.cell? ⟨xg, k * 15 + 5, none⟩ = some (.int .i64 x.m.kp) ∧ wr.drew.cell? ⟨xg, k * 15 + 6, none⟩ = some (.int .i64 x.m.ep) ∧ wr.drew.cell? ⟨xg, k * 15 + 7, none⟩ = some (.int .i64 x.lev) ∧ wr.drew.cell? ⟨xg, k * 15 + 8, none⟩ = some (.slice (some ⟨xb, 0, none⟩) x.k xc) ∧ wr.drew.cell? ⟨xg, k * 15 + 9, none⟩ = some (.int .i64 x.r) ∧ wr.drew.cell? ⟨xg, k * 15 + 10, none⟩ = some (.int .i64 x.c) ∧ wr.drew.cell? ⟨xg, k * 15 + 11, none⟩ = some (.int .i64 x.e) ∧ wr.drew.cell? ⟨xg, k * 15 + 12, none⟩ = some (.int .i64 x.i) ∧ wr.drew.cell? ⟨xg, k * 15 + 13, none⟩ = some (.int .i64 x.stt) ∧ wr.drew.cell? ⟨xg, k * 15 + 14, none⟩ = some (.bool x.opt) := hS
        refine zTake 0 [0, 2, 3, 9] (v := ?_) rfl (by kernel_rfl) (by kernel_rfl) (by kernel_rfl) (by kernel_rfl) (by kernel_rfl) (fun c a w h => HP.out c a _ _ w h) (Or.inl ⟨by rfl, ?y1⟩) (by assumption) ?_
        case y1 =>
          intro w hSw
          try dsimp only at hSw
          go_simp
          try (with_reducible rfl)
        simp only [Act.put, List.setIfInBounds_toArray, List.set_cons_zero, List.set_cons_succ]
        refine zTake 1 [1, 2, 3, 9] (v := ?_) rfl (by kernel_rfl) (by kernel_rfl) (by kernel_rfl) (by kernel_rfl) (by kernel_rfl) (fun c a w h => HP.out c a _ _ w h) (Or.inl ⟨by rfl, ?y2⟩) (by assumption) ?_
        case y2 =>
          intro w hSw
          try dsimp only at hSw
          go_simp
          try (with_reducible rfl)
        simp only [Act.put, List.setIfInBounds_toArray, List.set_cons_zero, List.set_cons_succ]
        refine zTake 2 [2, 3, 9] (v := ?_) rfl (by kernel_rfl) (by kernel_rfl) (by kernel_rfl) (by kernel_rfl) (by kernel_rfl) (fun c a w h => HP.out c a _ _ w h) (Or.inl ⟨by rfl, ?y3⟩) (by assumption) ?_
        case y3 =>
          intro w hSw
          try dsimp only at hSw
          go_simp
          try (with_reducible rfl)
        simp only [Act.put, List.setIfInBounds_toArray, List.set_cons_zero, List.set_cons_succ]
        refine zTake 3 [3, 9] (v := ?_) rfl (by kernel_rfl) (by kernel_rfl) (by kernel_rfl) (by kernel_rfl) (by kernel_rfl) (fun c a w h => HP.out c a _ _ w h) (Or.inl ⟨by rfl, ?y4⟩) (by assumption) ?_
        case y4 =>
          intro w hSw
          try dsimp only at hSw
          go_simp
          try (with_reducible rfl)
        simp only [Act.put, List.setIfInBounds_toArray, List.set_cons_zero, List.set_cons_succ]
        refine zTake 4 [4, 6, 7, 9] (v := ?_) rfl (by kernel_rfl) (by kernel_rfl) (by kernel_rfl) (by kernel_rfl) (by kernel_rfl) (fun c a w h => HP.out c a _ _ w h) (Or.inl ⟨by rfl, ?y5⟩) (by assumption) ?_
        case y5 =>
          intro w hSw
          try dsimp only at hSw
          go_simp
          try (with_reducible rfl)
        simp only [Act.put, List.setIfInBounds_toArray, List.set_cons_zero, List.set_cons_succ]
        refine zTake 5 [5, 6, 7, 9] (v := ?_) rfl (by kernel_rfl) (by kernel_rfl) (by kernel_rfl) (by kernel_rfl) (by kernel_rfl) (fun c a w h => HP.out c a _ _ w h) (Or.inl ⟨by rfl, ?y6⟩) (by assumption) ?_
        case y6 =>
          intro w hSw
          try dsimp only at hSw
          go_simp
          try (with_reducible rfl)
        simp only [Act.put, List.setIfInBounds_toArray, List.set_cons_zero, List.set_cons_succ]
        refine zTake 6 [6, 7, 9] (v := ?_) rfl (by kernel_rfl) (by kernel_rfl) (by kernel_rfl) (by kernel_rfl) (by kernel_rfl) (fun c a w h => HP.out c a _ _ w h) (Or.inl ⟨by rfl, ?y7⟩) (by assumption) ?_
        case y7 =>
          intro w hSw
          try dsimp only at hSw
          go_simp
          try (with_reducible rfl)
        simp only [Act.put, List.setIfInBounds_toArray, List.set_cons_zero, List.set_cons_succ]
        refine zTake 7 [7, 9] (v := ?_) rfl (by kernel_rfl) (by kernel_rfl) (by kernel_rfl) (by kernel_rfl) (by kernel_rfl) (fun c a w h => HP.out c a _ _ w h) (Or.inl ⟨by rfl, ?y8⟩) (by assumption) ?_
        case y8 =>
          intro w hSw
          try dsimp only at hSw
          go_simp
          try (with_reducible rfl)
        simp only [Act.put, List.setIfInBounds_toArray, List.set_cons_zero, List.set_cons_succ]
        refine zTake 8 [8, 9] (v := ?_) rfl (by kernel_rfl) (by kernel_rfl) (by kernel_rfl) (by kernel_rfl) (by kernel_rfl) (fun c a w h => HP.out c a _ _ w h) (Or.inl ⟨by rfl, ?y9⟩) (by assumption) ?_
        case y9 =>
          intro w hSw
          try dsimp only at hSw
          go_simp
          try (with_reducible rfl)
        simp only [Act.put, List.setIfInBounds_toArray, List.set_cons_zero, List.set_cons_succ]
        refine zOne 9 (by kernel_rfl) rfl ?_
        intro K hK
        go_simp
        refine (HCall.out wr.drew (Kept.drew (Kept.refl _ _))).mono ?_
        rintro _ w2 ⟨bb, rfl, hbb, kk⟩
        refine hK.out _ _ (fun h => absurd rfl h) ?_
        refine wpAnyZ_done (by kernel_rfl) ?_ _
        clear hK K
        have HK2 := Hid.mk' (HK.out.1.trans ((Kept.drew (Kept.refl (fun _ => False) wr)).trans kk (fun _ _ e => e)) (fun _ _ e => e))
        have hopt : w2.cell? ⟨xg, k * 15 + 14, none⟩ = some (.bool x.opt) := (((Kept.drew (Kept.refl (fun _ => False) wr)).trans kk (fun _ _ e => e)).cell (a := ⟨xg, k * 15 + 14, none⟩) hxg (fun e => e)).trans hS.2.2.2.2.2.2.2.2.2.2.2.2.2.2.2.2.2.2.2.2.2.2.2.2.2.2.2.2.2
        clear hS hS0
        have h2 := HK.out.2
        rw [HD.out.1, HD.out.2] at h2
        cases bb
        · have hns : ¬ SameP g x ws := fun h => by have := hbb.2 h; cases this
          have hsk : x.opt = true ∧ Al ws ((X.map (·.1)).drop (k + 1)) (A.drop j) := by
            rw [HD.out.2]
            cases h2 with
            | take h _ => exact (hns h).elim
            | skip ho _ t => exact ⟨ho, t⟩
          obtain ⟨ho, ht⟩ := hsk
          rw [ho] at hopt
          have HT := Hid.mk' ht
          clear ht h2 hns hbb kk ho
          go_wp2
          go_roundw
          case rel => exact ⟨j, k + 1, by omega, by omega, rfl, by go_num, HK2.out, HT.out⟩
          case measure => simp [intOf]; omega
        · have hs : SameP g x ws := hbb.1 rfl
          have ht : Al ws ((X.map (·.1)).drop (k + 1)) (A.drop (j + 1)) := by
            cases h2 with
            | take _ t => exact t
            | skip _ h _ => exact (h hs).elim
          have HT := Hid.mk' ht
          clear ht h2 hs hbb kk
          go_wp2
          go_roundw
          case rel => exact ⟨j + 1, k + 1, by omega, by omega, by go_num, by go_num, HK2.out, HT.out⟩
          case measure => simp [intOf]; omega
    · have hltI : ¬ (k : Int) < (nx : Int) := by omega
      have hkn : k = nx := by omega
      have hx : (X.map (·.1)).drop k = [] := List.drop_eq_nil_of_le (by simp [M.xl]; omega)
      have h2 := HK.out.2
      rw [hx] at h2
      have hnil : A.drop j = [] := by
        generalize A.drop j = Y at h2
        cases h2
        rfl
      have hAj : A.length ≤ j := List.drop_eq_nil_iff.1 hnil
      have hle := HA.out.1.length_le
      have hgl := M.gl
      have hjn : j = ng := by omega
      subst hjn
      have HZ : Hid (lim = 0 ∨ (j : Int) ≤ lim) := by
        show _ ∨ _
        rcases HA.out.2 with ⟨_, h1⟩ | h1
        · unfold more at h1
          rw [hgl] at h1
          omega
        · rw [hgl] at h1
          omega
      clear M h2 hnil hx
      go_wp2
      all_goals
        repeat apply Exists.intro
        first | exact ⟨⟨rfl, HK.out.1, HZ.out⟩, rfl⟩ | exact ⟨HK.out.1, HZ.out⟩ | exact ⟨⟨HK.out.1, HZ.out⟩, rfl⟩
end Go.Proofs.YbulkejpeDoor
