import Derived.Test.Qxb6602961aSnake
namespace Go.Proofs.Qxb6602961a.W
open Go.RowKit Myers
set_option linter.unusedVariables false
set_option maxRecDepth 100000 in
set_option maxHeartbeats 1000000 in
theorem snakeBk (Ba Bb oa ob n m ca cb : Nat) (k x0 : Int) (fa gb : Nat → Int) (w : World) (Q : Exit → Act → World → Prop)
    (s0 s1 s2 s3 s4 s5 s6 s7 s8 s9 s10 s11 s14 s15 s16 s17 s18 s19 s20 s21 s22 s23 s24 s25 s26 s27 s28 s29 s30 s33 s34 s35 s36 s37 s38 s39 s40 s41 s42 s43 s44 s45 s46 s47 s48 s49 s50 s51 s52 s53 s54 s55 s56 s57 s58 s59 s60 s61 s62 s63 s64 s65 s66 s67 s68 s69 s70 s71 s72 s73 s74 s75 s76 s77 s78 s79 s80 s81 s82 s83 s84 s85 s86 s87 s88 s89 s90 s91 s92 s93 s94 s95 s96 s97 s98 s99 s100 s101 s102 s103 s104 s105 s106 s107 s108 s109 s110 s111 s112 s113 s114 s115 s116 s117 s118 s119 s120 s121 s122 s123 s124 s125 s126 s127 s128 s129 s130 s131 s132 s133 s134 s135 s136 s137 s138 s139 s140 s141 s142 s143 s144 s145 s146 s147 s148 s149 s150 s151 s152 s153 s154 s155 s156 s157 s158 s159 s160 s161 s162 s163 s164 s165 s166 s167 s168 s169 s170 s171 s172 s173 s174 s175 s176 s177 s178 s179 s180 s181 s182 s183 s184 s185 s186 s187 s188 s189 s190 s191 s192 s193 s194 s195 s196 s197 s198 s199 s200 s201 s202 s203 s204 s205 s206 s207 s208 s209 s210 s211 s212 s213 s214 s215 s216 s217 s218 s219 s220 s221 s222 s223 s224 s225 s226 s227 s228 s229 s230 s231 s232 s233 s234 s235 s236 s237 s238 s239 s240 s241 s242 s243 s244 s245 s246 s247 s248 s249 s250 s251 s252 s253 s254 s255 s256 s257 s258 s259 s260 s261 s262 s263 s264 s265 s266 s267 s268 s269 s270 s271 s272 s273 s274 s275 s276 s277 s278 s279 s280 s281 s282 s283 s284 s285 s286 s287 s288 s289 s290 s291 s292 s293 s294 s295 s296 s297 s298 s299 s300 s301 s302 s303 s304 s305 s306 s307 s308 s309 s310 s311 s312 s313 s314 s315 s316 s317 s318 s319 s320 s321 s322 s323 s324 s325 s326 s327 s328 s329 s330 s331 s332 s333 s334 s335 s336 s337 s338 s339 s340 s341 s342 s343 s344 s345 s346 s347 s348 s349 s350 s351 s352 s353 s354 s355 s356 s357 s358 s359 s360 s361 s362 s363 s364 s365 s366 s367 s368 s369 s370 s371 s372 s373 : Value)
    (hn : n ≤ 1024) (hm : m ≤ 1024) (hk1 : -(m : Int) ≤ k) (hk2 : k ≤ n) (hx0 : 0 ≤ x0) (hx1 : x0 ≤ n) (hy0 : 0 ≤ x0 - k) (hy1 : x0 - k ≤ m)
    (hca : ∀ i, i < n → w.cell? ⟨Ba, oa + i, none⟩ = some (.int .i64 (fa i))) (hcb : ∀ i, i < m → w.cell? ⟨Bb, ob + i, none⟩ = some (.int .i64 (gb i)))
    (hexit : ∀ (t310 t311 t312 t313 t314 t315 t316 t317 t318 t319 t320 t321 t322 t323 t324 t325 t326 t327 t328 t329 t330 t331 t332 t333 t334 : Value) (X : Int) (w' : World), Still w w' → SnakeB n m (fun i j => fa i = gb j) k x0 X → Q (.exit 8) ⟨List.toArray (s0 :: s1 :: s2 :: s3 :: s4 :: s5 :: s6 :: s7 :: s8 :: s9 :: s10 :: s11 :: .slice (some ⟨Ba, oa, none⟩) n ca :: .slice (some ⟨Bb, ob, none⟩) m cb :: s14 :: s15 :: s16 :: s17 :: s18 :: s19 :: s20 :: s21 :: s22 :: s23 :: s24 :: s25 :: s26 :: s27 :: s28 :: s29 :: s30 :: .int .i64 k :: .int .i64 X :: s33 :: s34 :: s35 :: s36 :: s37 :: s38 :: s39 :: s40 :: s41 :: s42 :: s43 :: s44 :: s45 :: s46 :: s47 :: s48 :: s49 :: s50 :: s51 :: s52 :: s53 :: s54 :: s55 :: s56 :: s57 :: s58 :: s59 :: s60 :: s61 :: s62 :: s63 :: s64 :: s65 :: s66 :: s67 :: s68 :: s69 :: s70 :: s71 :: s72 :: s73 :: s74 :: s75 :: s76 :: s77 :: s78 :: s79 :: s80 :: s81 :: s82 :: s83 :: s84 :: s85 :: s86 :: s87 :: s88 :: s89 :: s90 :: s91 :: s92 :: s93 :: s94 :: s95 :: s96 :: s97 :: s98 :: s99 :: s100 :: s101 :: s102 :: s103 :: s104 :: s105 :: s106 :: s107 :: s108 :: s109 :: s110 :: s111 :: s112 :: s113 :: s114 :: s115 :: s116 :: s117 :: s118 :: s119 :: s120 :: s121 :: s122 :: s123 :: s124 :: s125 :: s126 :: s127 :: s128 :: s129 :: s130 :: s131 :: s132 :: s133 :: s134 :: s135 :: s136 :: s137 :: s138 :: s139 :: s140 :: s141 :: s142 :: s143 :: s144 :: s145 :: s146 :: s147 :: s148 :: s149 :: s150 :: s151 :: s152 :: s153 :: s154 :: s155 :: s156 :: s157 :: s158 :: s159 :: s160 :: s161 :: s162 :: s163 :: s164 :: s165 :: s166 :: s167 :: s168 :: s169 :: s170 :: s171 :: s172 :: s173 :: s174 :: s175 :: s176 :: s177 :: s178 :: s179 :: s180 :: s181 :: s182 :: s183 :: s184 :: s185 :: s186 :: s187 :: s188 :: s189 :: s190 :: s191 :: s192 :: s193 :: s194 :: s195 :: s196 :: s197 :: s198 :: s199 :: s200 :: s201 :: s202 :: s203 :: s204 :: s205 :: s206 :: s207 :: s208 :: s209 :: s210 :: s211 :: s212 :: s213 :: s214 :: s215 :: s216 :: s217 :: s218 :: s219 :: s220 :: s221 :: s222 :: s223 :: s224 :: s225 :: s226 :: s227 :: s228 :: s229 :: s230 :: s231 :: s232 :: s233 :: s234 :: s235 :: s236 :: s237 :: s238 :: s239 :: s240 :: s241 :: s242 :: s243 :: s244 :: s245 :: s246 :: s247 :: s248 :: s249 :: s250 :: s251 :: s252 :: s253 :: s254 :: s255 :: s256 :: s257 :: s258 :: s259 :: s260 :: s261 :: s262 :: s263 :: s264 :: s265 :: s266 :: s267 :: s268 :: s269 :: s270 :: s271 :: s272 :: s273 :: s274 :: s275 :: s276 :: s277 :: s278 :: s279 :: s280 :: s281 :: s282 :: s283 :: s284 :: s285 :: s286 :: s287 :: s288 :: s289 :: s290 :: s291 :: s292 :: s293 :: s294 :: s295 :: s296 :: s297 :: s298 :: s299 :: s300 :: s301 :: s302 :: s303 :: s304 :: s305 :: s306 :: s307 :: s308 :: s309 :: t310 :: t311 :: t312 :: t313 :: t314 :: t315 :: t316 :: t317 :: t318 :: t319 :: t320 :: t321 :: t322 :: t323 :: t324 :: t325 :: t326 :: t327 :: t328 :: t329 :: t330 :: t331 :: t332 :: t333 :: t334 :: s335 :: s336 :: s337 :: s338 :: s339 :: s340 :: s341 :: s342 :: s343 :: s344 :: s345 :: s346 :: s347 :: s348 :: s349 :: s350 :: s351 :: s352 :: s353 :: s354 :: s355 :: s356 :: s357 :: s358 :: s359 :: s360 :: s361 :: s362 :: s363 :: s364 :: s365 :: s366 :: s367 :: s368 :: s369 :: s370 :: s371 :: s372 :: s373 :: []), []⟩ w') :
    Code.wp Try.prog (.loop (pick (pick (pick (Try.f21.body.getD .skip) 0) 1) 0)) Q ⟨List.toArray (s0 :: s1 :: s2 :: s3 :: s4 :: s5 :: s6 :: s7 :: s8 :: s9 :: s10 :: s11 :: .slice (some ⟨Ba, oa, none⟩) n ca :: .slice (some ⟨Bb, ob, none⟩) m cb :: s14 :: s15 :: s16 :: s17 :: s18 :: s19 :: s20 :: s21 :: s22 :: s23 :: s24 :: s25 :: s26 :: s27 :: s28 :: s29 :: s30 :: .int .i64 k :: .int .i64 x0 :: s33 :: s34 :: s35 :: s36 :: s37 :: s38 :: s39 :: s40 :: s41 :: s42 :: s43 :: s44 :: s45 :: s46 :: s47 :: s48 :: s49 :: s50 :: s51 :: s52 :: s53 :: s54 :: s55 :: s56 :: s57 :: s58 :: s59 :: s60 :: s61 :: s62 :: s63 :: s64 :: s65 :: s66 :: s67 :: s68 :: s69 :: s70 :: s71 :: s72 :: s73 :: s74 :: s75 :: s76 :: s77 :: s78 :: s79 :: s80 :: s81 :: s82 :: s83 :: s84 :: s85 :: s86 :: s87 :: s88 :: s89 :: s90 :: s91 :: s92 :: s93 :: s94 :: s95 :: s96 :: s97 :: s98 :: s99 :: s100 :: s101 :: s102 :: s103 :: s104 :: s105 :: s106 :: s107 :: s108 :: s109 :: s110 :: s111 :: s112 :: s113 :: s114 :: s115 :: s116 :: s117 :: s118 :: s119 :: s120 :: s121 :: s122 :: s123 :: s124 :: s125 :: s126 :: s127 :: s128 :: s129 :: s130 :: s131 :: s132 :: s133 :: s134 :: s135 :: s136 :: s137 :: s138 :: s139 :: s140 :: s141 :: s142 :: s143 :: s144 :: s145 :: s146 :: s147 :: s148 :: s149 :: s150 :: s151 :: s152 :: s153 :: s154 :: s155 :: s156 :: s157 :: s158 :: s159 :: s160 :: s161 :: s162 :: s163 :: s164 :: s165 :: s166 :: s167 :: s168 :: s169 :: s170 :: s171 :: s172 :: s173 :: s174 :: s175 :: s176 :: s177 :: s178 :: s179 :: s180 :: s181 :: s182 :: s183 :: s184 :: s185 :: s186 :: s187 :: s188 :: s189 :: s190 :: s191 :: s192 :: s193 :: s194 :: s195 :: s196 :: s197 :: s198 :: s199 :: s200 :: s201 :: s202 :: s203 :: s204 :: s205 :: s206 :: s207 :: s208 :: s209 :: s210 :: s211 :: s212 :: s213 :: s214 :: s215 :: s216 :: s217 :: s218 :: s219 :: s220 :: s221 :: s222 :: s223 :: s224 :: s225 :: s226 :: s227 :: s228 :: s229 :: s230 :: s231 :: s232 :: s233 :: s234 :: s235 :: s236 :: s237 :: s238 :: s239 :: s240 :: s241 :: s242 :: s243 :: s244 :: s245 :: s246 :: s247 :: s248 :: s249 :: s250 :: s251 :: s252 :: s253 :: s254 :: s255 :: s256 :: s257 :: s258 :: s259 :: s260 :: s261 :: s262 :: s263 :: s264 :: s265 :: s266 :: s267 :: s268 :: s269 :: s270 :: s271 :: s272 :: s273 :: s274 :: s275 :: s276 :: s277 :: s278 :: s279 :: s280 :: s281 :: s282 :: s283 :: s284 :: s285 :: s286 :: s287 :: s288 :: s289 :: s290 :: s291 :: s292 :: s293 :: s294 :: s295 :: s296 :: s297 :: s298 :: s299 :: s300 :: s301 :: s302 :: s303 :: s304 :: s305 :: s306 :: s307 :: s308 :: s309 :: s310 :: s311 :: s312 :: s313 :: s314 :: s315 :: s316 :: s317 :: s318 :: s319 :: s320 :: s321 :: s322 :: s323 :: s324 :: s325 :: s326 :: s327 :: s328 :: s329 :: s330 :: s331 :: s332 :: s333 :: s334 :: s335 :: s336 :: s337 :: s338 :: s339 :: s340 :: s341 :: s342 :: s343 :: s344 :: s345 :: s346 :: s347 :: s348 :: s349 :: s350 :: s351 :: s352 :: s353 :: s354 :: s355 :: s356 :: s357 :: s358 :: s359 :: s360 :: s361 :: s362 :: s363 :: s364 :: s365 :: s366 :: s367 :: s368 :: s369 :: s370 :: s371 :: s372 :: s373 :: []), []⟩ w := by
  conv => arg 2; arg 1; whnf
  have HCA : Hid (∀ i, i < n → w.cell? ⟨Ba, oa + i, none⟩ = some (.int .i64 (fa i))) := hca
  have HCB : Hid (∀ i, i < m → w.cell? ⟨Bb, ob + i, none⟩ = some (.int .i64 (gb i))) := hcb
  have HX : Hid (∀ (t310 t311 t312 t313 t314 t315 t316 t317 t318 t319 t320 t321 t322 t323 t324 t325 t326 t327 t328 t329 t330 t331 t332 t333 t334 : Value) (X : Int) (w' : World), Still w w' → SnakeB n m (fun i j => fa i = gb j) k x0 X → Q (.exit 8) ⟨List.toArray (s0 :: s1 :: s2 :: s3 :: s4 :: s5 :: s6 :: s7 :: s8 :: s9 :: s10 :: s11 :: .slice (some ⟨Ba, oa, none⟩) n ca :: .slice (some ⟨Bb, ob, none⟩) m cb :: s14 :: s15 :: s16 :: s17 :: s18 :: s19 :: s20 :: s21 :: s22 :: s23 :: s24 :: s25 :: s26 :: s27 :: s28 :: s29 :: s30 :: .int .i64 k :: .int .i64 X :: s33 :: s34 :: s35 :: s36 :: s37 :: s38 :: s39 :: s40 :: s41 :: s42 :: s43 :: s44 :: s45 :: s46 :: s47 :: s48 :: s49 :: s50 :: s51 :: s52 :: s53 :: s54 :: s55 :: s56 :: s57 :: s58 :: s59 :: s60 :: s61 :: s62 :: s63 :: s64 :: s65 :: s66 :: s67 :: s68 :: s69 :: s70 :: s71 :: s72 :: s73 :: s74 :: s75 :: s76 :: s77 :: s78 :: s79 :: s80 :: s81 :: s82 :: s83 :: s84 :: s85 :: s86 :: s87 :: s88 :: s89 :: s90 :: s91 :: s92 :: s93 :: s94 :: s95 :: s96 :: s97 :: s98 :: s99 :: s100 :: s101 :: s102 :: s103 :: s104 :: s105 :: s106 :: s107 :: s108 :: s109 :: s110 :: s111 :: s112 :: s113 :: s114 :: s115 :: s116 :: s117 :: s118 :: s119 :: s120 :: s121 :: s122 :: s123 :: s124 :: s125 :: s126 :: s127 :: s128 :: s129 :: s130 :: s131 :: s132 :: s133 :: s134 :: s135 :: s136 :: s137 :: s138 :: s139 :: s140 :: s141 :: s142 :: s143 :: s144 :: s145 :: s146 :: s147 :: s148 :: s149 :: s150 :: s151 :: s152 :: s153 :: s154 :: s155 :: s156 :: s157 :: s158 :: s159 :: s160 :: s161 :: s162 :: s163 :: s164 :: s165 :: s166 :: s167 :: s168 :: s169 :: s170 :: s171 :: s172 :: s173 :: s174 :: s175 :: s176 :: s177 :: s178 :: s179 :: s180 :: s181 :: s182 :: s183 :: s184 :: s185 :: s186 :: s187 :: s188 :: s189 :: s190 :: s191 :: s192 :: s193 :: s194 :: s195 :: s196 :: s197 :: s198 :: s199 :: s200 :: s201 :: s202 :: s203 :: s204 :: s205 :: s206 :: s207 :: s208 :: s209 :: s210 :: s211 :: s212 :: s213 :: s214 :: s215 :: s216 :: s217 :: s218 :: s219 :: s220 :: s221 :: s222 :: s223 :: s224 :: s225 :: s226 :: s227 :: s228 :: s229 :: s230 :: s231 :: s232 :: s233 :: s234 :: s235 :: s236 :: s237 :: s238 :: s239 :: s240 :: s241 :: s242 :: s243 :: s244 :: s245 :: s246 :: s247 :: s248 :: s249 :: s250 :: s251 :: s252 :: s253 :: s254 :: s255 :: s256 :: s257 :: s258 :: s259 :: s260 :: s261 :: s262 :: s263 :: s264 :: s265 :: s266 :: s267 :: s268 :: s269 :: s270 :: s271 :: s272 :: s273 :: s274 :: s275 :: s276 :: s277 :: s278 :: s279 :: s280 :: s281 :: s282 :: s283 :: s284 :: s285 :: s286 :: s287 :: s288 :: s289 :: s290 :: s291 :: s292 :: s293 :: s294 :: s295 :: s296 :: s297 :: s298 :: s299 :: s300 :: s301 :: s302 :: s303 :: s304 :: s305 :: s306 :: s307 :: s308 :: s309 :: t310 :: t311 :: t312 :: t313 :: t314 :: t315 :: t316 :: t317 :: t318 :: t319 :: t320 :: t321 :: t322 :: t323 :: t324 :: t325 :: t326 :: t327 :: t328 :: t329 :: t330 :: t331 :: t332 :: t333 :: t334 :: s335 :: s336 :: s337 :: s338 :: s339 :: s340 :: s341 :: s342 :: s343 :: s344 :: s345 :: s346 :: s347 :: s348 :: s349 :: s350 :: s351 :: s352 :: s353 :: s354 :: s355 :: s356 :: s357 :: s358 :: s359 :: s360 :: s361 :: s362 :: s363 :: s364 :: s365 :: s366 :: s367 :: s368 :: s369 :: s370 :: s371 :: s372 :: s373 :: []), []⟩ w') := hexit
  clear hca hcb hexit
  go_loopw [32] (fun xv wr => ∃ (x : Nat), xv = .int .i64 x ∧ Still w wr ∧ (x : Int) ≤ x0 ∧ x ≤ n ∧ 0 ≤ (x : Int) - k ∧ (x : Int) - k ≤ m ∧ (∀ a b : Nat, (x : Int) ≤ a → (a : Int) < x0 → (a : Int) - b = k → a < n ∧ b < m ∧ fa a = gb b)) (fun xv _ => (intOf xv).toNat)
  case atStart =>
    refine ⟨x0.toNat, by rw [Int.toNat_of_nonneg hx0], Still.refl _, by omega, by omega, by omega, by omega, fun a b h1 h2 => by omega⟩
  case round =>
    obtain ⟨x, rfl, hst, h1, h2, h3, h3', h4⟩ := hrel
    have HST : Hid (Still w wr) := hst
    have H4 : Hid (∀ a b : Nat, (x : Int) ≤ a → (a : Int) < x0 → (a : Int) - b = k → a < n ∧ b < m ∧ fa a = gb b) := h4
    clear h4 hst
    by_cases c1 : 0 < x
    · have b1 : IntKind.i64.wrap ((x : Int) - k) = (x : Int) - k := by rw [IntKind.wrap_i64]; omega
      have c1' : (0 : Int) < (x : Int) := by omega
      by_cases c2 : 0 < (x : Int) - k
      · have c2' : k < (x : Int) := by omega
        have hd1 : decide ((0 : Int) < (x : Int)) = true := by simpa using c1'
        have hd2 : decide (0 < (x : Int) - k) = true := by simpa using c2
        obtain ⟨p, hp⟩ : ∃ p : Nat, p = ((x : Int) - 1).toNat := ⟨_, rfl⟩
        obtain ⟨y, hy⟩ : ∃ y : Nat, y = ((x : Int) - k - 1).toNat := ⟨_, rfl⟩
        have HP : Hid ((x : Int) - 1 = p) := by show (x : Int) - 1 = p; omega
        have HY : Hid ((x : Int) - k - 1 = y) := by show (x : Int) - k - 1 = y; omega
        have q1 := HCA.out p (by omega)
        rw [← HST.out.cell] at q1
        have q2 := HCB.out y (by omega)
        rw [← HST.out.cell] at q2
        have b2 : IntKind.i64.wrap ((x : Int) - 1) = (x : Int) - 1 := by rw [IntKind.wrap_i64]; omega
        have b3 : 0 ≤ (x : Int) - 1 := by omega
        have b4 : (x : Int) - 1 < n := by omega
        have b5 : ((x : Int) - 1).toNat = p := by omega
        have b6 : IntKind.i64.wrap ((x : Int) - k - 1) = (x : Int) - k - 1 := by rw [IntKind.wrap_i64]; omega
        have b7 : 0 ≤ (x : Int) - k - 1 := by omega
        have b8 : (x : Int) - k - 1 < m := by omega
        have b9 : ((x : Int) - k - 1).toNat = y := by omega
        obtain ⟨z1, hz1⟩ : ∃ z, z = fa p := ⟨_, rfl⟩
        obtain ⟨z2, hz2⟩ : ∃ z, z = gb y := ⟨_, rfl⟩
        rw [← hz1] at q1
        rw [← hz2] at q2
        have HZ1 : Hid (z1 = fa p) := hz1
        have HZ2 : Hid (z2 = gb y) := hz2
        clear hz1 hz2 hy hp HCA HCB
        by_cases heq : z1 = z2
        · subst heq
          go_wp2
          go_quiet (fail)
          go_wp2
          go_roundw
          case rel =>
            refine ⟨x - 1, by rw [show ((x - 1 : Nat) : Int) = (x : Int) - 1 by omega], HST.out.drewN _, by omega, by omega, by omega, by omega, fun a b g1 g2 g3 => ?_⟩
            by_cases ea : a = p
            · subst ea
              obtain rfl : b = y := by have := HY.out; have := HP.out; omega
              exact ⟨by have := HP.out; omega, by have := HY.out; omega, by rw [← HZ1.out, ← HZ2.out]⟩
            · exact H4.out a b (by have := HP.out; omega) g2 g3
          case measure => simp [intOf]; omega
        · have hd : (z1 == z2) = false := by simpa using heq
          clear heq
          go_wp2
          go_quiet (fail)
          go_wp2
          refine HX.out _ _ _ _ _ _ _ _ _ _ _ _ _ _ _ _ _ _ _ _ _ _ _ _ _ _ _ (HST.out.drewN _) ⟨h1, by omega, h3, H4.out, fun a b g1 g2 g3 g4 g5 => ?_⟩
          obtain rfl : a = p := by have := HP.out; omega
          obtain rfl : b = y := by have := HY.out; have := HP.out; omega
          have g6 : fa a = gb b := g5
          rw [← HZ1.out, ← HZ2.out] at g6
          simp [g6] at hd
      · have hd2 : decide (0 < (x : Int) - k) = false := by simpa using c2
        have c2' : (x : Int) ≤ k := by omega
        have hd3 : decide (k < (x : Int)) = false := by simpa using c2'
        go_wp2
        go_quiet (fail)
        go_wp2
        refine HX.out _ _ _ _ _ _ _ _ _ _ _ _ _ _ _ _ _ _ _ _ _ _ _ _ _ _ _ (HST.out.drewN _) ⟨h1, by omega, h3, H4.out, fun a b g1 g2 g3 g4 g5 => by omega⟩
    · have hd1 : decide ((0 : Int) < (x : Int)) = false := by simpa using c1
      have hd3 : decide (0 < x) = false := by simpa using c1
      go_wp2
      go_quiet (fail)
      go_wp2
      refine HX.out _ _ _ _ _ _ _ _ _ _ _ _ _ _ _ _ _ _ _ _ _ _ _ _ _ _ _ (HST.out.drewN _) ⟨h1, by omega, h3, H4.out, fun a b g1 g2 g3 g4 g5 => by omega⟩
end Go.Proofs.Qxb6602961a.W
