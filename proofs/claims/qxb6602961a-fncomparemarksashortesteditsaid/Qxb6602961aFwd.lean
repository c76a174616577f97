import Derived.Test.Qxb6602961aSnake
import Derived.Test.Qxb6602961aSplitA
import Derived.Deep.CutRange
namespace Go.Proofs.Qxb6602961a.W
open Go.RowKit Myers
set_option linter.unusedVariables false

set_option maxRecDepth 100000 in
set_option maxHeartbeats 4000000 in
theorem fwd_loop (Ba Bb oa ob n m ca cb F G LF CF aLo bLo : Nat) (odd : Bool) (e fLo fHi bLo2 bHi2 : Int) (fa gb : Nat → Int) (P S : Nat → Nat → Int) (D : Int) (fs gs : List Int) (w : World) (Q : Exit → Act → World → Prop)
    (s0 s2 s4 s5 s6 s7 s8 s9 s10 s11 s16 s25 s28 s29 s30 s31 s32 s33 s34 s35 s36 s37 s38 s39 s40 s41 s42 s43 s44 s45 s46 s47 s48 s49 s50 s51 s52 s53 s54 s55 s56 s57 s58 s59 s60 s61 s62 s63 s64 s65 s66 s67 s68 s69 s70 s71 s72 s73 s74 s75 s76 s77 s78 s79 s80 s81 s82 s83 s84 s85 s86 s87 s88 s89 s90 s91 s92 s93 s94 s95 s96 s97 s98 s99 s100 s101 s102 s103 s104 s105 s106 s107 s108 s109 s110 s111 s112 s113 s114 s115 s116 s117 s118 s119 s120 s121 s122 s123 s124 s125 s126 s127 s128 s129 s130 s131 s132 s133 s134 s135 s136 s137 s138 s139 s140 s141 s142 s143 s144 s145 s146 s147 s148 s149 s150 s151 s152 s153 s154 s155 s156 s157 s158 s159 s160 s161 s162 s163 s164 s165 s166 s167 s168 s169 s170 s171 s172 s173 s174 s175 s176 s177 s178 s179 s180 s181 s182 s183 s184 s185 s186 s187 s188 s189 s190 s191 s192 s193 s194 s195 s196 s197 s198 s199 s200 s201 s202 s203 s204 s205 s206 s207 s208 s209 s210 s211 s212 s213 s214 s215 s216 s217 s218 s219 s220 s221 s222 s223 s224 s225 s226 s227 s228 s229 s230 s231 s232 s233 s234 s235 s236 s237 s238 s239 s240 s241 s242 s243 s244 s245 s246 s247 s248 s249 s250 s251 s252 s253 s254 s255 s256 s257 s258 s259 s260 s261 s262 s263 s264 s265 s266 s267 s268 s269 s270 s271 s272 s273 s274 s275 s276 s277 s278 s279 s280 s281 s282 s283 s284 s285 s286 s287 s288 s289 s290 s291 s292 s293 s294 s295 s296 s297 s298 s299 s300 s301 s302 s303 s304 s305 s306 s307 s308 s309 s310 s311 s312 s313 s314 s315 s316 s317 s318 s319 s320 s321 s322 s323 s324 s325 s326 s327 s328 s329 s330 s331 s332 s333 s334 s335 s336 s337 s338 s339 s340 s341 s342 s343 s344 s345 s346 s347 s348 s349 s350 s351 s352 s353 s354 s355 s356 s357 s358 s359 s360 s361 s362 s363 s364 s365 s366 s367 s368 s369 s370 s371 s372 s373 : Value)
    (GR : Grid n m (fun i j => fa i = gb j) P S D) (hD : 2 ≤ D) (hodd : odd = true ↔ ((n : Int) - m) % 2 = 1) (hI : Fwd n m P S D e fLo fHi bLo2 bHi2 (dlo (-e) (-(m : Int))) fs gs)
    (hn : n ≤ 1024) (hm : m ≤ 1024) (he : e ≤ (n : Int) + m) (ha : aLo ≤ 1024) (hb : bLo ≤ 1024) (hLF : n + m < LF) (hLC : LF ≤ CF) (hCF : CF ≤ 4000) (hfl : LF ≤ fs.length) (hgl : LF ≤ gs.length)
    (hFG : F ≠ G) (hFa : Ba ≠ F) (hGa : Ba ≠ G) (hFb : Bb ≠ F) (hGb : Bb ≠ G) (hBF : Blk w F fs) (hBG : Blk w G gs)
    (hca : ∀ i, i < n → w.cell? ⟨Ba, oa + i, none⟩ = some (.int .i64 (fa i))) (hcb : ∀ i, i < m → w.cell? ⟨Bb, ob + i, none⟩ = some (.int .i64 (gb i)))
    (hexit : ∀ (t10 t11 t27 t28 t29 t30 t105 t106 t107 t108 t109 t110 t111 t112 t113 t114 t115 t116 t117 t118 t119 t120 t121 t122 t123 t124 t125 t126 t127 t128 t129 t130 t131 t132 t133 t134 t135 t136 t137 t138 t139 t140 t141 t142 t143 t144 t145 t146 t147 t148 t149 t150 t151 t152 t153 t154 t155 t156 t157 t158 t159 t160 t161 t162 t163 t164 t165 t166 t167 t168 t169 t170 t171 t172 t173 t174 t175 t176 t177 t178 t179 t180 t181 t182 t183 t184 t185 t186 t187 t188 t189 t190 t191 t192 t193 t194 t195 t196 t197 t198 t199 t200 t201 t202 t203 t204 t205 t206 t207 t208 t209 t210 t211 t212 t213 t214 t215 t216 t217 t218 t219 t220 t221 t222 t223 t224 t225 t226 t227 t228 t229 t230 t231 t232 t233 t234 : Value) (fs' : List Int) (k : Int) (w' : World), Fwd n m P S D e fLo fHi bLo2 bHi2 k fs' gs → dhi e n < k → fs'.length = fs.length → Blk w' F fs' → Blk w' G gs → Same2 F G w w' → Q (.exit 2) ⟨List.toArray (s0 :: .int .i64 aLo :: s2 :: .int .i64 bLo :: s4 :: s5 :: s6 :: s7 :: s8 :: s9 :: t10 :: t11 :: .slice (some ⟨Ba, oa, none⟩) n ca :: .slice (some ⟨Bb, ob, none⟩) m cb :: .int .i64 n :: .int .i64 m :: s16 :: .bool odd :: .slice (some ⟨F, 0, none⟩) LF CF :: .slice (some ⟨G, 0, none⟩) LF CF :: .int .i64 fLo :: .int .i64 fHi :: .int .i64 bLo2 :: .int .i64 bHi2 :: .int .i64 e :: s25 :: .int .i64 (dhi e n) :: t27 :: t28 :: t29 :: t30 :: s31 :: s32 :: s33 :: s34 :: s35 :: s36 :: s37 :: s38 :: s39 :: s40 :: s41 :: s42 :: s43 :: s44 :: s45 :: s46 :: s47 :: s48 :: s49 :: s50 :: s51 :: s52 :: s53 :: s54 :: s55 :: s56 :: s57 :: s58 :: s59 :: s60 :: s61 :: s62 :: s63 :: s64 :: s65 :: s66 :: s67 :: s68 :: s69 :: s70 :: s71 :: s72 :: s73 :: s74 :: s75 :: s76 :: s77 :: s78 :: s79 :: s80 :: s81 :: s82 :: s83 :: s84 :: s85 :: s86 :: s87 :: s88 :: s89 :: s90 :: s91 :: s92 :: s93 :: s94 :: s95 :: s96 :: s97 :: s98 :: s99 :: s100 :: s101 :: s102 :: s103 :: s104 :: t105 :: t106 :: t107 :: t108 :: t109 :: t110 :: t111 :: t112 :: t113 :: t114 :: t115 :: t116 :: t117 :: t118 :: t119 :: t120 :: t121 :: t122 :: t123 :: t124 :: t125 :: t126 :: t127 :: t128 :: t129 :: t130 :: t131 :: t132 :: t133 :: t134 :: t135 :: t136 :: t137 :: t138 :: t139 :: t140 :: t141 :: t142 :: t143 :: t144 :: t145 :: t146 :: t147 :: t148 :: t149 :: t150 :: t151 :: t152 :: t153 :: t154 :: t155 :: t156 :: t157 :: t158 :: t159 :: t160 :: t161 :: t162 :: t163 :: t164 :: t165 :: t166 :: t167 :: t168 :: t169 :: t170 :: t171 :: t172 :: t173 :: t174 :: t175 :: t176 :: t177 :: t178 :: t179 :: t180 :: t181 :: t182 :: t183 :: t184 :: t185 :: t186 :: t187 :: t188 :: t189 :: t190 :: t191 :: t192 :: t193 :: t194 :: t195 :: t196 :: t197 :: t198 :: t199 :: t200 :: t201 :: t202 :: t203 :: t204 :: t205 :: t206 :: t207 :: t208 :: t209 :: t210 :: t211 :: t212 :: t213 :: t214 :: t215 :: t216 :: t217 :: t218 :: t219 :: t220 :: t221 :: t222 :: t223 :: t224 :: t225 :: t226 :: t227 :: t228 :: t229 :: t230 :: t231 :: t232 :: t233 :: t234 :: s235 :: s236 :: s237 :: s238 :: s239 :: s240 :: s241 :: s242 :: s243 :: s244 :: s245 :: s246 :: s247 :: s248 :: s249 :: s250 :: s251 :: s252 :: s253 :: s254 :: s255 :: s256 :: s257 :: s258 :: s259 :: s260 :: s261 :: s262 :: s263 :: s264 :: s265 :: s266 :: s267 :: s268 :: s269 :: s270 :: s271 :: s272 :: s273 :: s274 :: s275 :: s276 :: s277 :: s278 :: s279 :: s280 :: s281 :: s282 :: s283 :: s284 :: s285 :: s286 :: s287 :: s288 :: s289 :: s290 :: s291 :: s292 :: s293 :: s294 :: s295 :: s296 :: s297 :: s298 :: s299 :: s300 :: s301 :: s302 :: s303 :: s304 :: s305 :: s306 :: s307 :: s308 :: s309 :: s310 :: s311 :: s312 :: s313 :: s314 :: s315 :: s316 :: s317 :: s318 :: s319 :: s320 :: s321 :: s322 :: s323 :: s324 :: s325 :: s326 :: s327 :: s328 :: s329 :: s330 :: s331 :: s332 :: s333 :: s334 :: s335 :: s336 :: s337 :: s338 :: s339 :: s340 :: s341 :: s342 :: s343 :: s344 :: s345 :: s346 :: s347 :: s348 :: s349 :: s350 :: s351 :: s352 :: s353 :: s354 :: s355 :: s356 :: s357 :: s358 :: s359 :: s360 :: s361 :: s362 :: s363 :: s364 :: s365 :: s366 :: s367 :: s368 :: s369 :: s370 :: s371 :: s372 :: s373 :: []), []⟩ w')
    (hret : ∀ (t27 t28 t29 t30 t105 t106 t107 t108 t109 t110 t111 t112 t113 t114 t115 t116 t117 t118 t119 t120 t121 t122 t123 t124 t125 t126 t127 t128 t129 t130 t131 t132 t133 t134 t135 t136 t137 t138 t139 t140 t141 t142 t143 t144 t145 t146 t147 t148 t149 t150 t151 t152 t153 t154 t155 t156 t157 t158 t159 t160 t161 t162 t163 t164 t165 t166 t167 t168 t169 t170 t171 t172 t173 t174 t175 t176 t177 t178 t179 t180 t181 t182 t183 t184 t185 t186 t187 t188 t189 t190 t191 t192 t193 t194 t195 t196 t197 t198 t199 t200 t201 t202 t203 t204 t205 t206 t207 t208 t209 t210 t211 t212 t213 t214 t215 t216 t217 t218 t219 t220 t221 t222 t223 t224 t225 t226 t227 t228 t229 t230 t231 t232 t233 t234 : Value) (fs' : List Int) (X k : Int) (w' : World), Myers.Good n m P S D X k → fs'.length = fs.length → Blk w' F fs' → Blk w' G gs → Same2 F G w w' → Q .ret ⟨List.toArray (s0 :: .int .i64 aLo :: s2 :: .int .i64 bLo :: s4 :: s5 :: s6 :: s7 :: s8 :: s9 :: .int .i64 ((aLo : Int) + X) :: .int .i64 ((bLo : Int) + X - k) :: .slice (some ⟨Ba, oa, none⟩) n ca :: .slice (some ⟨Bb, ob, none⟩) m cb :: .int .i64 n :: .int .i64 m :: s16 :: .bool odd :: .slice (some ⟨F, 0, none⟩) LF CF :: .slice (some ⟨G, 0, none⟩) LF CF :: .int .i64 fLo :: .int .i64 fHi :: .int .i64 bLo2 :: .int .i64 bHi2 :: .int .i64 e :: s25 :: .int .i64 (dhi e n) :: t27 :: t28 :: t29 :: t30 :: s31 :: s32 :: s33 :: s34 :: s35 :: s36 :: s37 :: s38 :: s39 :: s40 :: s41 :: s42 :: s43 :: s44 :: s45 :: s46 :: s47 :: s48 :: s49 :: s50 :: s51 :: s52 :: s53 :: s54 :: s55 :: s56 :: s57 :: s58 :: s59 :: s60 :: s61 :: s62 :: s63 :: s64 :: s65 :: s66 :: s67 :: s68 :: s69 :: s70 :: s71 :: s72 :: s73 :: s74 :: s75 :: s76 :: s77 :: s78 :: s79 :: s80 :: s81 :: s82 :: s83 :: s84 :: s85 :: s86 :: s87 :: s88 :: s89 :: s90 :: s91 :: s92 :: s93 :: s94 :: s95 :: s96 :: s97 :: s98 :: s99 :: s100 :: s101 :: s102 :: s103 :: s104 :: t105 :: t106 :: t107 :: t108 :: t109 :: t110 :: t111 :: t112 :: t113 :: t114 :: t115 :: t116 :: t117 :: t118 :: t119 :: t120 :: t121 :: t122 :: t123 :: t124 :: t125 :: t126 :: t127 :: t128 :: t129 :: t130 :: t131 :: t132 :: t133 :: t134 :: t135 :: t136 :: t137 :: t138 :: t139 :: t140 :: t141 :: t142 :: t143 :: t144 :: t145 :: t146 :: t147 :: t148 :: t149 :: t150 :: t151 :: t152 :: t153 :: t154 :: t155 :: t156 :: t157 :: t158 :: t159 :: t160 :: t161 :: t162 :: t163 :: t164 :: t165 :: t166 :: t167 :: t168 :: t169 :: t170 :: t171 :: t172 :: t173 :: t174 :: t175 :: t176 :: t177 :: t178 :: t179 :: t180 :: t181 :: t182 :: t183 :: t184 :: t185 :: t186 :: t187 :: t188 :: t189 :: t190 :: t191 :: t192 :: t193 :: t194 :: t195 :: t196 :: t197 :: t198 :: t199 :: t200 :: t201 :: t202 :: t203 :: t204 :: t205 :: t206 :: t207 :: t208 :: t209 :: t210 :: t211 :: t212 :: t213 :: t214 :: t215 :: t216 :: t217 :: t218 :: t219 :: t220 :: t221 :: t222 :: t223 :: t224 :: t225 :: t226 :: t227 :: t228 :: t229 :: t230 :: t231 :: t232 :: t233 :: t234 :: s235 :: s236 :: s237 :: s238 :: s239 :: s240 :: s241 :: s242 :: s243 :: s244 :: s245 :: s246 :: s247 :: s248 :: s249 :: s250 :: s251 :: s252 :: s253 :: s254 :: s255 :: s256 :: s257 :: s258 :: s259 :: s260 :: s261 :: s262 :: s263 :: s264 :: s265 :: s266 :: s267 :: s268 :: s269 :: s270 :: s271 :: s272 :: s273 :: s274 :: s275 :: s276 :: s277 :: s278 :: s279 :: s280 :: s281 :: s282 :: s283 :: s284 :: s285 :: s286 :: s287 :: s288 :: s289 :: s290 :: s291 :: s292 :: s293 :: s294 :: s295 :: s296 :: s297 :: s298 :: s299 :: s300 :: s301 :: s302 :: s303 :: s304 :: s305 :: s306 :: s307 :: s308 :: s309 :: s310 :: s311 :: s312 :: s313 :: s314 :: s315 :: s316 :: s317 :: s318 :: s319 :: s320 :: s321 :: s322 :: s323 :: s324 :: s325 :: s326 :: s327 :: s328 :: s329 :: s330 :: s331 :: s332 :: s333 :: s334 :: s335 :: s336 :: s337 :: s338 :: s339 :: s340 :: s341 :: s342 :: s343 :: s344 :: s345 :: s346 :: s347 :: s348 :: s349 :: s350 :: s351 :: s352 :: s353 :: s354 :: s355 :: s356 :: s357 :: s358 :: s359 :: s360 :: s361 :: s362 :: s363 :: s364 :: s365 :: s366 :: s367 :: s368 :: s369 :: s370 :: s371 :: s372 :: s373 :: []), []⟩ w') :
    Code.wp Try.prog (.loop (pick (pick (Try.f21.body.getD .skip) 0) 0)) Q ⟨List.toArray (s0 :: .int .i64 aLo :: s2 :: .int .i64 bLo :: s4 :: s5 :: s6 :: s7 :: s8 :: s9 :: s10 :: s11 :: .slice (some ⟨Ba, oa, none⟩) n ca :: .slice (some ⟨Bb, ob, none⟩) m cb :: .int .i64 n :: .int .i64 m :: s16 :: .bool odd :: .slice (some ⟨F, 0, none⟩) LF CF :: .slice (some ⟨G, 0, none⟩) LF CF :: .int .i64 fLo :: .int .i64 fHi :: .int .i64 bLo2 :: .int .i64 bHi2 :: .int .i64 e :: s25 :: .int .i64 (dhi e n) :: .int .i64 (dlo (-e) (-(m : Int))) :: s28 :: s29 :: s30 :: s31 :: s32 :: s33 :: s34 :: s35 :: s36 :: s37 :: s38 :: s39 :: s40 :: s41 :: s42 :: s43 :: s44 :: s45 :: s46 :: s47 :: s48 :: s49 :: s50 :: s51 :: s52 :: s53 :: s54 :: s55 :: s56 :: s57 :: s58 :: s59 :: s60 :: s61 :: s62 :: s63 :: s64 :: s65 :: s66 :: s67 :: s68 :: s69 :: s70 :: s71 :: s72 :: s73 :: s74 :: s75 :: s76 :: s77 :: s78 :: s79 :: s80 :: s81 :: s82 :: s83 :: s84 :: s85 :: s86 :: s87 :: s88 :: s89 :: s90 :: s91 :: s92 :: s93 :: s94 :: s95 :: s96 :: s97 :: s98 :: s99 :: s100 :: s101 :: s102 :: s103 :: s104 :: s105 :: s106 :: s107 :: s108 :: s109 :: s110 :: s111 :: s112 :: s113 :: s114 :: s115 :: s116 :: s117 :: s118 :: s119 :: s120 :: s121 :: s122 :: s123 :: s124 :: s125 :: s126 :: s127 :: s128 :: s129 :: s130 :: s131 :: s132 :: s133 :: s134 :: s135 :: s136 :: s137 :: s138 :: s139 :: s140 :: s141 :: s142 :: s143 :: s144 :: s145 :: s146 :: s147 :: s148 :: s149 :: s150 :: s151 :: s152 :: s153 :: s154 :: s155 :: s156 :: s157 :: s158 :: s159 :: s160 :: s161 :: s162 :: s163 :: s164 :: s165 :: s166 :: s167 :: s168 :: s169 :: s170 :: s171 :: s172 :: s173 :: s174 :: s175 :: s176 :: s177 :: s178 :: s179 :: s180 :: s181 :: s182 :: s183 :: s184 :: s185 :: s186 :: s187 :: s188 :: s189 :: s190 :: s191 :: s192 :: s193 :: s194 :: s195 :: s196 :: s197 :: s198 :: s199 :: s200 :: s201 :: s202 :: s203 :: s204 :: s205 :: s206 :: s207 :: s208 :: s209 :: s210 :: s211 :: s212 :: s213 :: s214 :: s215 :: s216 :: s217 :: s218 :: s219 :: s220 :: s221 :: s222 :: s223 :: s224 :: s225 :: s226 :: s227 :: s228 :: s229 :: s230 :: s231 :: s232 :: s233 :: s234 :: s235 :: s236 :: s237 :: s238 :: s239 :: s240 :: s241 :: s242 :: s243 :: s244 :: s245 :: s246 :: s247 :: s248 :: s249 :: s250 :: s251 :: s252 :: s253 :: s254 :: s255 :: s256 :: s257 :: s258 :: s259 :: s260 :: s261 :: s262 :: s263 :: s264 :: s265 :: s266 :: s267 :: s268 :: s269 :: s270 :: s271 :: s272 :: s273 :: s274 :: s275 :: s276 :: s277 :: s278 :: s279 :: s280 :: s281 :: s282 :: s283 :: s284 :: s285 :: s286 :: s287 :: s288 :: s289 :: s290 :: s291 :: s292 :: s293 :: s294 :: s295 :: s296 :: s297 :: s298 :: s299 :: s300 :: s301 :: s302 :: s303 :: s304 :: s305 :: s306 :: s307 :: s308 :: s309 :: s310 :: s311 :: s312 :: s313 :: s314 :: s315 :: s316 :: s317 :: s318 :: s319 :: s320 :: s321 :: s322 :: s323 :: s324 :: s325 :: s326 :: s327 :: s328 :: s329 :: s330 :: s331 :: s332 :: s333 :: s334 :: s335 :: s336 :: s337 :: s338 :: s339 :: s340 :: s341 :: s342 :: s343 :: s344 :: s345 :: s346 :: s347 :: s348 :: s349 :: s350 :: s351 :: s352 :: s353 :: s354 :: s355 :: s356 :: s357 :: s358 :: s359 :: s360 :: s361 :: s362 :: s363 :: s364 :: s365 :: s366 :: s367 :: s368 :: s369 :: s370 :: s371 :: s372 :: s373 :: []), []⟩ w := by
  conv => arg 2; arg 1; whnf
  have HCA : Hid (∀ i, i < n → w.cell? ⟨Ba, oa + i, none⟩ = some (.int .i64 (fa i))) := hca
  have HCB : Hid (∀ i, i < m → w.cell? ⟨Bb, ob + i, none⟩ = some (.int .i64 (gb i))) := hcb
  have HX : Hid (∀ (t10 t11 t27 t28 t29 t30 t105 t106 t107 t108 t109 t110 t111 t112 t113 t114 t115 t116 t117 t118 t119 t120 t121 t122 t123 t124 t125 t126 t127 t128 t129 t130 t131 t132 t133 t134 t135 t136 t137 t138 t139 t140 t141 t142 t143 t144 t145 t146 t147 t148 t149 t150 t151 t152 t153 t154 t155 t156 t157 t158 t159 t160 t161 t162 t163 t164 t165 t166 t167 t168 t169 t170 t171 t172 t173 t174 t175 t176 t177 t178 t179 t180 t181 t182 t183 t184 t185 t186 t187 t188 t189 t190 t191 t192 t193 t194 t195 t196 t197 t198 t199 t200 t201 t202 t203 t204 t205 t206 t207 t208 t209 t210 t211 t212 t213 t214 t215 t216 t217 t218 t219 t220 t221 t222 t223 t224 t225 t226 t227 t228 t229 t230 t231 t232 t233 t234 : Value) (fs' : List Int) (k : Int) (w' : World), Fwd n m P S D e fLo fHi bLo2 bHi2 k fs' gs → dhi e n < k → fs'.length = fs.length → Blk w' F fs' → Blk w' G gs → Same2 F G w w' → Q (.exit 2) ⟨List.toArray (s0 :: .int .i64 aLo :: s2 :: .int .i64 bLo :: s4 :: s5 :: s6 :: s7 :: s8 :: s9 :: t10 :: t11 :: .slice (some ⟨Ba, oa, none⟩) n ca :: .slice (some ⟨Bb, ob, none⟩) m cb :: .int .i64 n :: .int .i64 m :: s16 :: .bool odd :: .slice (some ⟨F, 0, none⟩) LF CF :: .slice (some ⟨G, 0, none⟩) LF CF :: .int .i64 fLo :: .int .i64 fHi :: .int .i64 bLo2 :: .int .i64 bHi2 :: .int .i64 e :: s25 :: .int .i64 (dhi e n) :: t27 :: t28 :: t29 :: t30 :: s31 :: s32 :: s33 :: s34 :: s35 :: s36 :: s37 :: s38 :: s39 :: s40 :: s41 :: s42 :: s43 :: s44 :: s45 :: s46 :: s47 :: s48 :: s49 :: s50 :: s51 :: s52 :: s53 :: s54 :: s55 :: s56 :: s57 :: s58 :: s59 :: s60 :: s61 :: s62 :: s63 :: s64 :: s65 :: s66 :: s67 :: s68 :: s69 :: s70 :: s71 :: s72 :: s73 :: s74 :: s75 :: s76 :: s77 :: s78 :: s79 :: s80 :: s81 :: s82 :: s83 :: s84 :: s85 :: s86 :: s87 :: s88 :: s89 :: s90 :: s91 :: s92 :: s93 :: s94 :: s95 :: s96 :: s97 :: s98 :: s99 :: s100 :: s101 :: s102 :: s103 :: s104 :: t105 :: t106 :: t107 :: t108 :: t109 :: t110 :: t111 :: t112 :: t113 :: t114 :: t115 :: t116 :: t117 :: t118 :: t119 :: t120 :: t121 :: t122 :: t123 :: t124 :: t125 :: t126 :: t127 :: t128 :: t129 :: t130 :: t131 :: t132 :: t133 :: t134 :: t135 :: t136 :: t137 :: t138 :: t139 :: t140 :: t141 :: t142 :: t143 :: t144 :: t145 :: t146 :: t147 :: t148 :: t149 :: t150 :: t151 :: t152 :: t153 :: t154 :: t155 :: t156 :: t157 :: t158 :: t159 :: t160 :: t161 :: t162 :: t163 :: t164 :: t165 :: t166 :: t167 :: t168 :: t169 :: t170 :: t171 :: t172 :: t173 :: t174 :: t175 :: t176 :: t177 :: t178 :: t179 :: t180 :: t181 :: t182 :: t183 :: t184 :: t185 :: t186 :: t187 :: t188 :: t189 :: t190 :: t191 :: t192 :: t193 :: t194 :: t195 :: t196 :: t197 :: t198 :: t199 :: t200 :: t201 :: t202 :: t203 :: t204 :: t205 :: t206 :: t207 :: t208 :: t209 :: t210 :: t211 :: t212 :: t213 :: t214 :: t215 :: t216 :: t217 :: t218 :: t219 :: t220 :: t221 :: t222 :: t223 :: t224 :: t225 :: t226 :: t227 :: t228 :: t229 :: t230 :: t231 :: t232 :: t233 :: t234 :: s235 :: s236 :: s237 :: s238 :: s239 :: s240 :: s241 :: s242 :: s243 :: s244 :: s245 :: s246 :: s247 :: s248 :: s249 :: s250 :: s251 :: s252 :: s253 :: s254 :: s255 :: s256 :: s257 :: s258 :: s259 :: s260 :: s261 :: s262 :: s263 :: s264 :: s265 :: s266 :: s267 :: s268 :: s269 :: s270 :: s271 :: s272 :: s273 :: s274 :: s275 :: s276 :: s277 :: s278 :: s279 :: s280 :: s281 :: s282 :: s283 :: s284 :: s285 :: s286 :: s287 :: s288 :: s289 :: s290 :: s291 :: s292 :: s293 :: s294 :: s295 :: s296 :: s297 :: s298 :: s299 :: s300 :: s301 :: s302 :: s303 :: s304 :: s305 :: s306 :: s307 :: s308 :: s309 :: s310 :: s311 :: s312 :: s313 :: s314 :: s315 :: s316 :: s317 :: s318 :: s319 :: s320 :: s321 :: s322 :: s323 :: s324 :: s325 :: s326 :: s327 :: s328 :: s329 :: s330 :: s331 :: s332 :: s333 :: s334 :: s335 :: s336 :: s337 :: s338 :: s339 :: s340 :: s341 :: s342 :: s343 :: s344 :: s345 :: s346 :: s347 :: s348 :: s349 :: s350 :: s351 :: s352 :: s353 :: s354 :: s355 :: s356 :: s357 :: s358 :: s359 :: s360 :: s361 :: s362 :: s363 :: s364 :: s365 :: s366 :: s367 :: s368 :: s369 :: s370 :: s371 :: s372 :: s373 :: []), []⟩ w') := hexit
  have HR : Hid (∀ (t27 t28 t29 t30 t105 t106 t107 t108 t109 t110 t111 t112 t113 t114 t115 t116 t117 t118 t119 t120 t121 t122 t123 t124 t125 t126 t127 t128 t129 t130 t131 t132 t133 t134 t135 t136 t137 t138 t139 t140 t141 t142 t143 t144 t145 t146 t147 t148 t149 t150 t151 t152 t153 t154 t155 t156 t157 t158 t159 t160 t161 t162 t163 t164 t165 t166 t167 t168 t169 t170 t171 t172 t173 t174 t175 t176 t177 t178 t179 t180 t181 t182 t183 t184 t185 t186 t187 t188 t189 t190 t191 t192 t193 t194 t195 t196 t197 t198 t199 t200 t201 t202 t203 t204 t205 t206 t207 t208 t209 t210 t211 t212 t213 t214 t215 t216 t217 t218 t219 t220 t221 t222 t223 t224 t225 t226 t227 t228 t229 t230 t231 t232 t233 t234 : Value) (fs' : List Int) (X k : Int) (w' : World), Myers.Good n m P S D X k → fs'.length = fs.length → Blk w' F fs' → Blk w' G gs → Same2 F G w w' → Q .ret ⟨List.toArray (s0 :: .int .i64 aLo :: s2 :: .int .i64 bLo :: s4 :: s5 :: s6 :: s7 :: s8 :: s9 :: .int .i64 ((aLo : Int) + X) :: .int .i64 ((bLo : Int) + X - k) :: .slice (some ⟨Ba, oa, none⟩) n ca :: .slice (some ⟨Bb, ob, none⟩) m cb :: .int .i64 n :: .int .i64 m :: s16 :: .bool odd :: .slice (some ⟨F, 0, none⟩) LF CF :: .slice (some ⟨G, 0, none⟩) LF CF :: .int .i64 fLo :: .int .i64 fHi :: .int .i64 bLo2 :: .int .i64 bHi2 :: .int .i64 e :: s25 :: .int .i64 (dhi e n) :: t27 :: t28 :: t29 :: t30 :: s31 :: s32 :: s33 :: s34 :: s35 :: s36 :: s37 :: s38 :: s39 :: s40 :: s41 :: s42 :: s43 :: s44 :: s45 :: s46 :: s47 :: s48 :: s49 :: s50 :: s51 :: s52 :: s53 :: s54 :: s55 :: s56 :: s57 :: s58 :: s59 :: s60 :: s61 :: s62 :: s63 :: s64 :: s65 :: s66 :: s67 :: s68 :: s69 :: s70 :: s71 :: s72 :: s73 :: s74 :: s75 :: s76 :: s77 :: s78 :: s79 :: s80 :: s81 :: s82 :: s83 :: s84 :: s85 :: s86 :: s87 :: s88 :: s89 :: s90 :: s91 :: s92 :: s93 :: s94 :: s95 :: s96 :: s97 :: s98 :: s99 :: s100 :: s101 :: s102 :: s103 :: s104 :: t105 :: t106 :: t107 :: t108 :: t109 :: t110 :: t111 :: t112 :: t113 :: t114 :: t115 :: t116 :: t117 :: t118 :: t119 :: t120 :: t121 :: t122 :: t123 :: t124 :: t125 :: t126 :: t127 :: t128 :: t129 :: t130 :: t131 :: t132 :: t133 :: t134 :: t135 :: t136 :: t137 :: t138 :: t139 :: t140 :: t141 :: t142 :: t143 :: t144 :: t145 :: t146 :: t147 :: t148 :: t149 :: t150 :: t151 :: t152 :: t153 :: t154 :: t155 :: t156 :: t157 :: t158 :: t159 :: t160 :: t161 :: t162 :: t163 :: t164 :: t165 :: t166 :: t167 :: t168 :: t169 :: t170 :: t171 :: t172 :: t173 :: t174 :: t175 :: t176 :: t177 :: t178 :: t179 :: t180 :: t181 :: t182 :: t183 :: t184 :: t185 :: t186 :: t187 :: t188 :: t189 :: t190 :: t191 :: t192 :: t193 :: t194 :: t195 :: t196 :: t197 :: t198 :: t199 :: t200 :: t201 :: t202 :: t203 :: t204 :: t205 :: t206 :: t207 :: t208 :: t209 :: t210 :: t211 :: t212 :: t213 :: t214 :: t215 :: t216 :: t217 :: t218 :: t219 :: t220 :: t221 :: t222 :: t223 :: t224 :: t225 :: t226 :: t227 :: t228 :: t229 :: t230 :: t231 :: t232 :: t233 :: t234 :: s235 :: s236 :: s237 :: s238 :: s239 :: s240 :: s241 :: s242 :: s243 :: s244 :: s245 :: s246 :: s247 :: s248 :: s249 :: s250 :: s251 :: s252 :: s253 :: s254 :: s255 :: s256 :: s257 :: s258 :: s259 :: s260 :: s261 :: s262 :: s263 :: s264 :: s265 :: s266 :: s267 :: s268 :: s269 :: s270 :: s271 :: s272 :: s273 :: s274 :: s275 :: s276 :: s277 :: s278 :: s279 :: s280 :: s281 :: s282 :: s283 :: s284 :: s285 :: s286 :: s287 :: s288 :: s289 :: s290 :: s291 :: s292 :: s293 :: s294 :: s295 :: s296 :: s297 :: s298 :: s299 :: s300 :: s301 :: s302 :: s303 :: s304 :: s305 :: s306 :: s307 :: s308 :: s309 :: s310 :: s311 :: s312 :: s313 :: s314 :: s315 :: s316 :: s317 :: s318 :: s319 :: s320 :: s321 :: s322 :: s323 :: s324 :: s325 :: s326 :: s327 :: s328 :: s329 :: s330 :: s331 :: s332 :: s333 :: s334 :: s335 :: s336 :: s337 :: s338 :: s339 :: s340 :: s341 :: s342 :: s343 :: s344 :: s345 :: s346 :: s347 :: s348 :: s349 :: s350 :: s351 :: s352 :: s353 :: s354 :: s355 :: s356 :: s357 :: s358 :: s359 :: s360 :: s361 :: s362 :: s363 :: s364 :: s365 :: s366 :: s367 :: s368 :: s369 :: s370 :: s371 :: s372 :: s373 :: []), []⟩ w') := hret
  have HGR : Hid (Grid n m (fun i j => fa i = gb j) P S D) := GR
  have HODD : Hid (odd = true ↔ ((n : Int) - m) % 2 = 1) := hodd
  clear hca hcb hexit hret GR hodd
  go_loopw [27] (fun kv wr => ∃ (k : Int) (fs' : List Int), kv = .int .i64 k ∧ Fwd n m P S D e fLo fHi bLo2 bHi2 k fs' gs ∧ fs'.length = fs.length ∧ Blk wr F fs' ∧ Blk wr G gs ∧ Same2 F G w wr) (fun kv _ => (n + 2 - intOf kv).toNat)
  case atStart => exact ⟨_, fs, rfl, hI, rfl, hBF, hBG, Same2.refl _ _ _⟩
  case round =>
    clear hI hBF hBG
    obtain ⟨k, fs', rfl, hI, hlen, hBF, hBG, hS⟩ := hrel
    have HI : Hid (Fwd n m P S D e fLo fHi bLo2 bHi2 k fs' gs) := hI
    have HBF : Hid (Blk wr F fs') := hBF
    have HBG : Hid (Blk wr G gs) := hBG
    have HS : Hid (Same2 F G w wr) := hS
    have HL : Hid (fs'.length = fs.length) := hlen
    have hk1 := hI.k0.1
    have hk2 := hI.k0.2.1
    have he0 := hI.e0
    have hd1 := (dhi_spec e n).1
    have hd2 := (dhi_spec e n).2.1
    clear hI hBF hBG hS hlen
    by_cases hlt : k ≤ dhi e n
    · -- what the two neighbours hold
      have hfH : fHi ≤ n ∧ -(m : Int) ≤ fLo := by
        rcases HI.out.rf with ⟨_, q1, q2⟩ | ⟨_, q1, q2⟩
        · omega
        · have := dhi_spec (e - 1) n; have := dlo_spec (-(e - 1)) (-(m : Int)); omega
      obtain ⟨hfH1, hfL1⟩ := hfH
      obtain ⟨v1, hv1⟩ : ∃ v, v = val m fs' (k + 1) := ⟨_, rfl⟩
      obtain ⟨v2, hv2⟩ : ∃ v, v = val m fs' (k - 1) := ⟨_, rfl⟩
      have HV1 : Hid (v1 = val m fs' (k + 1)) := hv1
      have HV2 : Hid (v2 = val m fs' (k - 1)) := hv2
      clear hv1 hv2
      go_upto_if 111 with fail
      go_cut [28] from 105 to 234 (fun xv wc => xv = .int .i64 (if e = 0 then 0 else -1) ∧ wc = wr)
      case first =>
        cases hb0 : (e == 0) with
        | true =>
          go_wp2
          go_meet
          case rel => exact ⟨by rw [if_pos (by simpa using hb0)], rfl⟩
        | false =>
          go_wp2
          go_meet
          case rel => exact ⟨by rw [if_neg (by simpa using hb0)], rfl⟩
      case rest =>
        obtain ⟨rfl, rfl⟩ := hcut
        obtain ⟨x1, hx1⟩ : ∃ x1, x1 = (if e = 0 then 0 else -1 : Int) := ⟨_, rfl⟩
        rw [← hx1]
        have HX1 : Hid (x1 = (if e = 0 then 0 else -1 : Int)) := hx1
        clear hx1
        have hin := HI.out.inF hlt
        have hr1 : k + 1 ≤ fHi → -1 ≤ v1 ∧ v1 ≤ n := fun h => by
          have := (HI.out.f _ ((rgF_up HI.out.rf hin).1 h)).rng
          rw [← HV1.out] at this; omega
        have hr2 : fLo ≤ k - 1 → -1 ≤ v2 ∧ v2 ≤ n := fun h => by
          have := (HI.out.f _ ((rgF_down HI.out.rf hin).1 h)).rng
          rw [← HV2.out] at this; omega
        have hc1 : k + 1 ≤ fHi → wc.cell? ⟨F, (k + 1 + m).toNat, none⟩ = some (.int .i64 v1) := fun h => by
          rw [HV1.out]; exact HBF.out.cell _ (by have := HL.out; omega)
        have hc2 : fLo ≤ k - 1 → wc.cell? ⟨F, (k - 1 + m).toNat, none⟩ = some (.int .i64 v2) := fun h => by
          rw [HV2.out]; exact HBF.out.cell _ (by have := HL.out; omega)
        have HR1 : Hid (k + 1 ≤ fHi → -1 ≤ v1 ∧ v1 ≤ n) := hr1
        have HR2 : Hid (fLo ≤ k - 1 → -1 ≤ v2 ∧ v2 ≤ n) := hr2
        have HC1 : Hid (k + 1 ≤ fHi → wc.cell? ⟨F, (k + 1 + m).toNat, none⟩ = some (.int .i64 v1)) := hc1
        have HC2 : Hid (fLo ≤ k - 1 → wc.cell? ⟨F, (k - 1 + m).toNat, none⟩ = some (.int .i64 v2)) := hc2
        have HIN : Hid (Myers.inF n m e k) := hin
        clear hin hr1 hr2 hc1 hc2
        obtain ⟨wo, rfl⟩ : ∃ wo : World, wo = wc := ⟨_, rfl⟩
        go_upto_if 115 with fail
        go_cut [28] from 105 to 234 (fun xv wc => xv = .int .i64 (if k + 1 ≤ fHi ∧ 0 ≤ v1 ∧ v1 - k ≤ m then v1 else x1) ∧ wc = wo)
        case first =>
          by_cases g1 : k + 1 ≤ fHi
          · obtain ⟨r1, r2⟩ := HR1.out g1
            have c1 := HC1.out g1
            by_cases g2 : 0 ≤ v1
            · by_cases g3 : v1 - k ≤ m
              · go_wp2
                go_meet
                case rel => exact ⟨by rw [if_pos ⟨g1, g2, g3⟩], rfl⟩
              · go_wp2
                go_meet
                case rel => exact ⟨by rw [if_neg (by omega)], rfl⟩
            · go_wp2
              go_meet
              case rel => exact ⟨by rw [if_neg (by omega)], rfl⟩
          · go_wp2
            go_meet
            case rel => exact ⟨by rw [if_neg (by omega)], rfl⟩
        case rest =>
          obtain ⟨rfl, rfl⟩ := hcut
          obtain ⟨x2, hx2⟩ : ∃ x2, x2 = (if k + 1 ≤ fHi ∧ 0 ≤ v1 ∧ v1 - k ≤ m then v1 else x1) := ⟨_, rfl⟩
          rw [← hx2]
          have HX2 : Hid (x2 = (if k + 1 ≤ fHi ∧ 0 ≤ v1 ∧ v1 - k ≤ m then v1 else x1)) := hx2
          have hb2 : -1 ≤ x2 ∧ x2 ≤ n := by
            have h1 := HX1.out
            have : -1 ≤ x1 ∧ x1 ≤ 0 := by rw [h1]; split <;> omega
            rw [hx2]; split
            · have := HR1.out (by omega); omega
            · omega
          clear hx2
          obtain ⟨wo, rfl⟩ : ∃ wo : World, wo = wc := ⟨_, rfl⟩
          go_upto_if 136 with fail
          go_cut [28] from 105 to 234 (fun xv wc => xv = .int .i64 (if fLo ≤ k - 1 ∧ 0 ≤ v2 ∧ v2 < n ∧ x2 < v2 + 1 then v2 + 1 else x2) ∧ wc = wo)
          case first =>
            by_cases g1 : fLo ≤ k - 1
            · obtain ⟨r1, r2⟩ := HR2.out g1
              have c1 := HC2.out g1
              by_cases g2 : 0 ≤ v2
              · by_cases g3 : v2 < n
                · by_cases g4 : x2 < v2 + 1
                  · go_wp2
                    go_meet
                    case rel => exact ⟨by rw [if_pos ⟨g1, g2, g3, g4⟩], rfl⟩
                  · go_wp2
                    go_meet
                    case rel => exact ⟨by rw [if_neg (by omega)], rfl⟩
                · go_wp2
                  go_meet
                  case rel => exact ⟨by rw [if_neg (by omega)], rfl⟩
              · go_wp2
                go_meet
                case rel => exact ⟨by rw [if_neg (by omega)], rfl⟩
            · go_wp2
              go_meet
              case rel => exact ⟨by rw [if_neg (by omega)], rfl⟩
          case rest =>
            obtain ⟨rfl, rfl⟩ := hcut
            obtain ⟨x0, hx0⟩ : ∃ x0, x0 = (if fLo ≤ k - 1 ∧ 0 ≤ v2 ∧ v2 < n ∧ x2 < v2 + 1 then v2 + 1 else x2) := ⟨_, rfl⟩
            rw [← hx0]
            have HX0 : Hid (x0 = x0F e k fLo fHi n m v1 v2) := by rw [hx0, HX2.out, HX1.out]; rfl
            have hb0 : -1 ≤ x0 ∧ x0 ≤ n := by rw [hx0]; split <;> omega
            clear hx0 HX1 HX2
            obtain ⟨hb0, hb1⟩ := hb0
            clear HC1 HC2 HR1 HR2
            have hcF := HBF.out.cell (k + m).toNat (by have := HL.out; omega)
            have hfF := HBF.out.free (k + m).toNat
            have HX0' : Hid (x0 = x0F e k fLo fHi n m (val m fs' (k + 1)) (val m fs' (k - 1))) := by rw [← HV1.out, ← HV2.out]; exact HX0.out
            clear HX0 HV1 HV2
            by_cases hneg : x0 < 0
            · go_wp2
              go_roundw
              case rel =>
                have hok : FOK n m P S D e k (-1) := HI.out.ok HGR.out hlt (-1) (fun _ => rfl) (fun h => by have := HX0'.out; omega)
                exact ⟨k + 2, fs'.set (k + m).toNat (-1), by go_num, HI.out.next hlt (-1) hok (fun _ _ _ h => by omega), by rw [List.length_set]; exact HL.out, HBF.out.set _ _, HBG.out.other (fun h => hFG h.symm) _, HS.out.setCell (.inl rfl) _⟩
              case measure => simp [intOf]; omega
            · have hbeg := HI.out.begin hlt (by have := HX0'.out; omega)
              rw [← HX0'.out] at hbeg
              obtain ⟨g1, g2, g3⟩ := hbeg
              go_wp2
              refine snakeF Ba Bb oa ob n m ca cb k x0 fa gb wc _ _ _ _ _ _ _ _ _ _ _ _ _ _ _ _ _ _ _ _ _ _ _ _ _ _ _ _ _ _ _ _ _ _ _ _ _ _ _ _ _ _ _ _ _ _ _ _ _ _ _ _ _ _ _ _ _ _ _ _ _ _ _ _ _ _ _ _ _ _ _ _ _ _ _ _ _ _ _ _ _ _ _ _ _ _ _ _ _ _ _ _ _ _ _ _ _ _ _ _ _ _ _ _ _ _ _ _ _ _ _ _ _ _ _ _ _ _ _ _ _ _ _ _ _ _ _ _ _ _ _ _ _ _ _ _ _ _ _ _ _ _ _ _ _ _ _ _ _ _ _ _ _ _ _ _ _ _ _ _ _ _ _ _ _ _ _ _ _ _ _ _ _ _ _ _ _ _ _ _ _ _ _ _ _ _ _ _ _ _ _ _ _ _ _ _ _ _ _ _ _ _ _ _ _ _ _ _ _ _ _ _ _ _ _ _ _ _ _ _ _ _ _ _ _ _ _ _ _ _ _ _ _ _ _ _ _ _ _ _ _ _ _ _ _ _ _ _ _ _ _ _ _ _ _ _ _ _ _ _ _ _ _ _ _ _ _ _ _ _ _ _ _ _ _ _ _ _ _ _ _ _ _ _ _ _ _ _ _ _ _ _ _ _ _ _ _ _ _ _ _ _ _ _ _ _ _ _ _ _ _ _ _ _ _ _ _ _ _ _ _ _ _ _ _ _ _ _ _ _ _ _ _ _ _ _ _ _ _ _ _ _ _ _ _ _ _ _ _ _ _ _ _ _ _ _ _ _ _ _ _ _ _ _ _ _ _ _ _ hn hm hk1 (by omega) (by omega) g1 g2 g3 (fun i hi => ?_) (fun i hi => ?_) ?_
              · rw [HS.out.cell hFa hGa]; exact HCA.out i hi
              · rw [HS.out.cell hFb hGb]; exact HCB.out i hi
              · intro t166 t167 t168 t169 t170 t171 t172 t173 t174 t175 t176 t177 t178 t179 t180 t181 t182 t183 t184 t185 t186 t187 t188 t189 t190 X w' hst hsn
                have hBF' := HBF.out.still hst
                have hBG' := HBG.out.still hst
                have hX1 : x0 ≤ X := hsn.1
                have hX2 : X ≤ n := hsn.2.1
                have hX3 : X - k ≤ m := hsn.2.2.1
                have HOK : Hid (FOK n m P S D e k X) := HI.out.ok HGR.out hlt X (fun h => by have := HX0'.out; omega) (fun _ => by rw [← HX0'.out]; exact hsn)
                obtain ⟨u, hu⟩ : ∃ u, u = val m gs k := ⟨_, rfl⟩
                have hcF := hBF'.cell (k + m).toNat (by have := HL.out; omega)
                have hfF := hBF'.free (k + m).toNat
                have HBF1 : Hid (Blk (w'.setCell ⟨F, (k + m).toNat, none⟩ (.int .i64 X)) F (fs'.set (k + m).toNat X)) := hBF'.set _ _
                have hBG1 : Blk (w'.setCell ⟨F, (k + m).toNat, none⟩ (.int .i64 X)) G gs := hBG'.other (fun h => hFG h.symm) _
                have hcG := hBG1.cell (k + m).toNat (by omega)
                have HU : Hid (u = val m gs k) := hu
                have hcG' : (w'.setCell ⟨F, (k + m).toNat, none⟩ (.int .i64 X)).cell? ⟨G, (k + m).toNat, none⟩ = some (.int .i64 u) := by rw [hu]; exact hcG
                have HBG1 : Hid (Blk (w'.setCell ⟨F, (k + m).toNat, none⟩ (.int .i64 X)) G gs) := hBG1
                have HS1 : Hid (Same2 F G w (w'.setCell ⟨F, (k + m).toNat, none⟩ (.int .i64 X))) := (HS.out.trans ⟨hst.2.1, hst.2.2.1, hst.2.2.2, by rw [hst.1], fun i _ _ => by rw [hst.1]⟩).setCell (.inl rfl) _
                clear hBF' hBG' hBG1 hcG hsn hst hu HX0'
                cases odd with
                | false =>
                  go_wp2
                  go_roundw
                  case rel => exact ⟨k + 2, fs'.set (k + m).toNat X, by go_num, HI.out.next hlt X HOK.out (fun h => by have := HODD.out; simp at this; omega), by rw [List.length_set]; exact HL.out, HBF1.out, HBG1.out, HS1.out⟩
                  case measure => simp [intOf]; omega
                | true =>
                  have ho : ((n : Int) - m) % 2 = 1 := HODD.out.1 rfl
                  have HO : Hid (((n : Int) - m) % 2 = 1) := ho
                  clear ho
                  by_cases q1 : bLo2 ≤ k
                  · by_cases q2 : k ≤ bHi2
                    · by_cases q3 : 0 ≤ u
                      · by_cases q4 : u ≤ X
                        · go_wp2
                          exact HR.out _ _ _ _ _ _ _ _ _ _ _ _ _ _ _ _ _ _ _ _ _ _ _ _ _ _ _ _ _ _ _ _ _ _ _ _ _ _ _ _ _ _ _ _ _ _ _ _ _ _ _ _ _ _ _ _ _ _ _ _ _ _ _ _ _ _ _ _ _ _ _ _ _ _ _ _ _ _ _ _ _ _ _ _ _ _ _ _ _ _ _ _ _ _ _ _ _ _ _ _ _ _ _ _ _ _ _ _ _ _ _ _ _ _ _ _ _ _ _ _ _ _ _ _ _ _ _ _ _ _ _ _ _ _ (fs'.set (k + m).toNat X) X k _ (HI.out.meet HGR.out hlt X HOK.out (by omega) HO.out q1 q2 (by have := HU.out; omega) (by have := HU.out; omega) hD) (by rw [List.length_set]; exact HL.out) HBF1.out HBG1.out HS1.out
                        · go_wp2
                          go_roundw
                          case rel => exact ⟨k + 2, fs'.set (k + m).toNat X, by go_num, HI.out.next hlt X HOK.out (fun _ _ _ h => by have := HU.out; omega), by rw [List.length_set]; exact HL.out, HBF1.out, HBG1.out, HS1.out⟩
                          case measure => simp [intOf]; omega
                      · go_wp2
                        go_roundw
                        case rel => exact ⟨k + 2, fs'.set (k + m).toNat X, by go_num, HI.out.next hlt X HOK.out (fun _ _ _ h => by have := HU.out; omega), by rw [List.length_set]; exact HL.out, HBF1.out, HBG1.out, HS1.out⟩
                        case measure => simp [intOf]; omega
                    · go_wp2
                      go_roundw
                      case rel => exact ⟨k + 2, fs'.set (k + m).toNat X, by go_num, HI.out.next hlt X HOK.out (fun _ _ h _ => by omega), by rw [List.length_set]; exact HL.out, HBF1.out, HBG1.out, HS1.out⟩
                      case measure => simp [intOf]; omega
                  · go_wp2
                    go_roundw
                    case rel => exact ⟨k + 2, fs'.set (k + m).toNat X, by go_num, HI.out.next hlt X HOK.out (fun _ h _ _ => by omega), by rw [List.length_set]; exact HL.out, HBF1.out, HBG1.out, HS1.out⟩
                    case measure => simp [intOf]; omega
    · go_wp2
      exact HX.out _ _ _ _ _ _ _ _ _ _ _ _ _ _ _ _ _ _ _ _ _ _ _ _ _ _ _ _ _ _ _ _ _ _ _ _ _ _ _ _ _ _ _ _ _ _ _ _ _ _ _ _ _ _ _ _ _ _ _ _ _ _ _ _ _ _ _ _ _ _ _ _ _ _ _ _ _ _ _ _ _ _ _ _ _ _ _ _ _ _ _ _ _ _ _ _ _ _ _ _ _ _ _ _ _ _ _ _ _ _ _ _ _ _ _ _ _ _ _ _ _ _ _ _ _ _ _ _ _ _ _ _ _ _ _ _ fs' k _ HI.out (by omega) HL.out HBF.out HBG.out HS.out

end Go.Proofs.Qxb6602961a.W
