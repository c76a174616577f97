/- split, walked: the prologue, the loop over e; its two inner loops by their theorems. -/
import Derived.Test.Qxb6602961aFwd
import Derived.Test.Qxb6602961aBwd
namespace Go.Proofs.Qxb6602961a.W
open Go.RowKit Myers
set_option linter.unusedVariables false

theorem odd_iff (x : Int) : (x.tmod 2 != 0) = true ↔ x % 2 = 1 := by
  have h : x.tmod 2 = 0 ↔ x % 2 = 0 := by
    rw [← Int.dvd_iff_tmod_eq_zero, ← Int.dvd_iff_emod_eq_zero]
  simp only [bne_iff_ne, ne_eq, h]
  omega

set_option maxRecDepth 100000 in
set_option maxHeartbeats 4000000 in
theorem split_any (Bd Ba Bb F G : Nat) (la lb ca cb N : Nat) (aLo aHi bLo bHi : Nat) (f g : Nat → Int) (fs gs : List Int) (w : World)
    (d0 : w.cell? ⟨Bd, 0, none⟩ = some (.slice (some ⟨Ba, 0, none⟩) la ca)) (d1 : w.cell? ⟨Bd, 1, none⟩ = some (.slice (some ⟨Bb, 0, none⟩) lb cb))
    (d4 : w.cell? ⟨Bd, 4, none⟩ = some (.slice (some ⟨F, 0, none⟩) N N)) (d5 : w.cell? ⟨Bd, 5, none⟩ = some (.slice (some ⟨G, 0, none⟩) N N))
    (h1 : aLo < aHi) (h2 : aHi ≤ la) (h3 : la ≤ ca) (h4 : bLo < bHi) (h5 : bHi ≤ lb) (h6 : lb ≤ cb) (h7 : la ≤ 1024) (h8 : lb ≤ 1024) (hN : la + lb < N) (hN2 : N ≤ 4000)
    (hca : ∀ i, i < la → w.cell? ⟨Ba, i, none⟩ = some (.int .i64 (f i))) (hcb : ∀ i, i < lb → w.cell? ⟨Bb, i, none⟩ = some (.int .i64 (g i)))
    (hBF : Blk w F fs) (hBG : Blk w G gs) (hfl : fs.length = N) (hgl : gs.length = N) (hFG : F ≠ G) (hFa : Ba ≠ F) (hGa : Ba ≠ G) (hFb : Bb ≠ F) (hGb : Bb ≠ G)
    (hne1 : f aLo ≠ g bLo) (hne2 : f (aHi - 1) ≠ g (bHi - 1)) :
    Calls Try.prog 21 #[.pointer (some ⟨Bd, 0, none⟩), .int .i64 aLo, .int .i64 aHi, .int .i64 bLo, .int .i64 bHi] w fun e w' =>
      ∃ (x y : Nat) (fs' gs' : List Int), e = .returned (.tuple #[.int .i64 x, .int .i64 y]) ∧ aLo ≤ x ∧ x ≤ aHi ∧ bLo ≤ y ∧ y ≤ bHi ∧
        0 < ((x - aLo : Nat) : Int) + (y - bLo : Nat) - 2 * lc f g aLo bLo (x - aLo) (y - bLo) ∧
        0 < ((aHi - x : Nat) : Int) + (bHi - y : Nat) - 2 * lc f g x y (aHi - x) (bHi - y) ∧
        (((x - aLo : Nat) : Int) + (y - bLo : Nat) - 2 * lc f g aLo bLo (x - aLo) (y - bLo)) + (((aHi - x : Nat) : Int) + (bHi - y : Nat) - 2 * lc f g x y (aHi - x) (bHi - y)) = ((aHi - aLo : Nat) : Int) + (bHi - bLo : Nat) - 2 * lc f g aLo bLo (aHi - aLo) (bHi - bLo) ∧
        Blk w' F fs' ∧ Blk w' G gs' ∧ fs'.length = N ∧ gs'.length = N ∧ Same2 F G w w' := by
  have HCA : Hid (∀ i, i < la → w.cell? ⟨Ba, i, none⟩ = some (.int .i64 (f i))) := hca
  have HCB : Hid (∀ i, i < lb → w.cell? ⟨Bb, i, none⟩ = some (.int .i64 (g i))) := hcb
  have HBF : Hid (Blk w F fs) := hBF
  have HBG : Hid (Blk w G gs) := hBG
  have HFL : Hid (fs.length = N) := hfl
  have HGL : Hid (gs.length = N) := hgl
  have HN1 : Hid (f aLo ≠ g bLo) := hne1
  have HN2 : Hid (f (aHi - 1) ≠ g (bHi - 1)) := hne2
  have HNE : Hid (F ≠ G ∧ Ba ≠ F ∧ Ba ≠ G ∧ Bb ≠ F ∧ Bb ≠ G) := ⟨hFG, hFa, hGa, hFb, hGb⟩
  clear hca hcb hBF hBG hfl hgl hne1 hne2 hFG hFa hGa hFb hGb
  go_enter Try.func21, Try.ntmps21
  go_wp2
  go_quiet (fail)
  go_wp2
  have hx1 : ((aHi - aLo : Nat) : Int) + ((bHi - bLo : Nat) : Int) + 1 ≤ N := by omega
  go_quiet (fail)
  go_wp2
  obtain ⟨n, hn⟩ : ∃ n, n = aHi - aLo := ⟨_, rfl⟩
  obtain ⟨m, hm⟩ : ∃ m, m = bHi - bLo := ⟨_, rfl⟩
  rw [← hn, ← hm]
  have HG := grid_of f g aLo bLo n m
  have HN : Hid (n = aHi - aLo) := hn
  have HM : Hid (m = bHi - bLo) := hm
  have b1 : 1 ≤ n := by omega
  have b2 : n ≤ 1024 := by omega
  have b3 : 1 ≤ m := by omega
  have b4 : m ≤ 1024 := by omega
  have b5 : n + m < N := by omega
  have b6 : aLo ≤ 1024 := by omega
  have b7 : bLo ≤ 1024 := by omega
  have hD : 2 ≤ (n : Int) + m - 2 * lc f g aLo bLo n m := HG.two b1 b3 (by simpa using HN1.out) (by
    have := HN2.out
    rw [show aLo + (n - 1) = aHi - 1 by omega, show bLo + (m - 1) = bHi - 1 by omega]; exact this)
  obtain ⟨P, S, D, GR, hP, hS, hDq, hD2⟩ : ∃ (P S : Nat → Nat → Int) (D : Int), Grid n m (fun i j => f (aLo + i) = g (bLo + j)) P S D ∧ (∀ x y, P x y = (x : Int) + y - 2 * lc f g aLo bLo x y) ∧
      (∀ x y, S x y = ((n - x : Nat) : Int) + (m - y : Nat) - 2 * lc f g (aLo + x) (bLo + y) (n - x) (m - y)) ∧ D = (n : Int) + m - 2 * lc f g aLo bLo n m ∧ 2 ≤ D :=
    ⟨_, _, _, HG, fun _ _ => rfl, fun _ _ => rfl, rfl, hD⟩
  have HGR : Hid (Grid n m (fun i j => f (aLo + i) = g (bLo + j)) P S D) := GR
  have HP : Hid (∀ x y, P x y = (x : Int) + y - 2 * lc f g aLo bLo x y) := hP
  have HSq : Hid (∀ x y, S x y = ((n - x : Nat) : Int) + (m - y : Nat) - 2 * lc f g (aLo + x) (bLo + y) (n - x) (m - y)) := hS
  have HDq : Hid (D = (n : Int) + m - 2 * lc f g aLo bLo n m) := hDq
  have HST0 : Hid (D ≤ (n : Int) + m) := GR.dle
  have HC1 : Hid (∀ i, i < n → w.cell? ⟨Ba, aLo + i, none⟩ = some (.int .i64 (f (aLo + i)))) := fun i hi => HCA.out (aLo + i) (by have := HN.out; omega)
  have HC2 : Hid (∀ i, i < m → w.cell? ⟨Bb, bLo + i, none⟩ = some (.int .i64 (g (bLo + i)))) := fun i hi => HCB.out (bLo + i) (by have := HM.out; omega)
  -- what the point that the inner loops find is worth
  have HGOOD : Hid (∀ X k : Int, Myers.Good n m P S D X k → ∃ x y : Nat, (aLo : Int) + X = x ∧ (bLo : Int) + X - k = y ∧ aLo ≤ x ∧ x ≤ aHi ∧ bLo ≤ y ∧ y ≤ bHi ∧
        0 < ((x - aLo : Nat) : Int) + (y - bLo : Nat) - 2 * lc f g aLo bLo (x - aLo) (y - bLo) ∧
        0 < ((aHi - x : Nat) : Int) + (bHi - y : Nat) - 2 * lc f g x y (aHi - x) (bHi - y) ∧
        (((x - aLo : Nat) : Int) + (y - bLo : Nat) - 2 * lc f g aLo bLo (x - aLo) (y - bLo)) + (((aHi - x : Nat) : Int) + (bHi - y : Nat) - 2 * lc f g x y (aHi - x) (bHi - y)) = ((aHi - aLo : Nat) : Int) + (bHi - bLo : Nat) - 2 * lc f g aLo bLo (aHi - aLo) (bHi - bLo)) := by
    rintro X k ⟨x, y, q1, q2, q3, q4, q5, q6, q7⟩
    have en := HN.out
    have em := HM.out
    refine ⟨aLo + x, bLo + y, by omega, by omega, by omega, by omega, by omega, by omega, ?_⟩
    rw [hP] at q5 q7
    rw [hS] at q6 q7
    rw [hDq] at q7
    rw [show aLo + x - aLo = x by omega, show bLo + y - bLo = y by omega, show aHi - (aLo + x) = n - x by omega, show bHi - (bLo + y) = m - y by omega, ← en, ← em]
    exact ⟨by omega, by omega, by omega⟩
  have HODD := odd_iff ((n : Int) - m)
  have HO : Hid ((((n : Int) - m).tmod 2 != 0) = true ↔ ((n : Int) - m) % 2 = 1) := HODD
  clear hn hm hx1 d0 d1 d4 d5 hD HN1 HN2 GR hP hS hDq HG HODD HP HSq HDq HCA HCB
  go_loopw [20, 21, 22, 23, 24] (fun fl fh bl bh ev wr => ∃ (e fLo fHi bLo2 bHi2 : Int) (fs' gs' : List Int), ev = .int .i64 e ∧ fl = .int .i64 fLo ∧ fh = .int .i64 fHi ∧ bl = .int .i64 bLo2 ∧ bh = .int .i64 bHi2 ∧
      Outer n m P S D e fLo fHi bLo2 bHi2 fs' gs' ∧ fs'.length = N ∧ gs'.length = N ∧ Blk wr F fs' ∧ Blk wr G gs' ∧ Same2 F G w wr) (fun _ _ _ _ ev _ => (n + m + 1 - (intOf ev)).toNat)
  case atStart =>
    exact ⟨0, _, _, _, _, fs, gs, rfl, rfl, rfl, rfl, rfl, outer_start HGR.out (by have := HFL.out; omega) (by have := HGL.out; omega) (by omega), HFL.out, HGL.out, HBF.out.drewN _, HBG.out.drewN _, (Same2.refl _ _ _).drewN _⟩
  case round =>
    obtain ⟨e, fLo, fHi, bLo2, bHi2, fs', gs', rfl, rfl, rfl, rfl, rfl, hO, hfl, hgl, hBF, hBG, hS⟩ := hrel
    have hstop := hO.stop HGR.out (by omega)
    have he0 := hO.e0
    have HOU : Hid (Outer n m P S D e fLo fHi bLo2 bHi2 fs' gs') := hO
    have HFL1 : Hid (fs'.length = N) := hfl
    have HGL1 : Hid (gs'.length = N) := hgl
    have HBF1 : Hid (Blk wr F fs') := hBF
    have HBG1 : Hid (Blk wr G gs') := hBG
    have HS1 : Hid (Same2 F G w wr) := hS
    clear hO hfl hgl hBF hBG hS HFL HGL HBF HBG
    obtain ⟨hFG, hFa, hGa, hFb, hGb⟩ := HNE.out
    go_wp2_with fail
    refine (diag_any _ _ _ _ _ (by omega) (by omega) (by omega) (by omega) (by omega) (by omega) (by omega) (by omega)).mono ?_
    rintro _ wz ⟨rfl, rfl⟩
    go_wp2
    refine fwd_loop Ba Bb aLo bLo n m (ca - aLo) (cb - bLo) F G (n + m + 1) N aLo bLo (((n : Int) - m).tmod 2 != 0) e fLo fHi bLo2 bHi2 (fun i => f (aLo + i)) (fun j => g (bLo + j)) P S D fs' gs' wz _ _ _ _ _ _ _ _ _ _ _ _ _ _ _ _ _ _ _ _ _ _ _ _ _ _ _ _ _ _ _ _ _ _ _ _ _ _ _ _ _ _ _ _ _ _ _ _ _ _ _ _ _ _ _ _ _ _ _ _ _ _ _ _ _ _ _ _ _ _ _ _ _ _ _ _ _ _ _ _ _ _ _ _ _ _ _ _ _ _ _ _ _ _ _ _ _ _ _ _ _ _ _ _ _ _ _ _ _ _ _ _ _ _ _ _ _ _ _ _ _ _ _ _ _ _ _ _ _ _ _ _ _ _ _ _ _ _ _ _ _ _ _ _ _ _ _ _ _ _ _ _ _ _ _ _ _ _ _ _ _ _ _ _ _ _ _ _ _ _ _ _ _ _ _ _ _ _ _ _ _ _ _ _ _ _ _ _ _ _ _ _ _ _ _ _ _ _ _ _ _ _ _ _ _ _ _ _ _ _ _ _ _ _ _ _ _ _ _ _ _ _ _ _ _ _ _ _ _ _ _ _ _ _ _ _ _ _ _ _ _ _ _ _ _ _ _ _ _ _ _ _ _ _ _ _ _ _ _ _ _ _ _ _ _ _ _ _ _ _ _ _ _ _ _ _ _ _ _ _ _ _ _ _ _ _ _ _ _ _ _ _ _ _ _ _ _ _ _ _ _ _ _ _ _ _ _ _ _ _ _ _ _ _ _ _ _ _ _ _ _ _ _ _ _ _ _ _ _ _ _ _ _ _ _ _ _ _ _ _ _ _ _ _ _ _ _ _ _ _ _ _ _ _ _ _ _ _ _
      HGR.out hD2 HO.out HOU.out.fwd b2 b4 hstop b6 b7 (by omega) (by omega) hN2 (by have := HFL1.out; omega) (by have := HGL1.out; omega) hFG hFa hGa hFb hGb HBF1.out HBG1.out (fun i hi => ?_) (fun i hi => ?_) ?_ ?_
    · rw [HS1.out.cell hFa hGa]; exact HC1.out i hi
    · rw [HS1.out.cell hFb hGb]; exact HC2.out i hi
    · intro t10 t11 t27 t28 t29 t30 t105 t106 t107 t108 t109 t110 t111 t112 t113 t114 t115 t116 t117 t118 t119 t120 t121 t122 t123 t124 t125 t126 t127 t128 t129 t130 t131 t132 t133 t134 t135 t136 t137 t138 t139 t140 t141 t142 t143 t144 t145 t146 t147 t148 t149 t150 t151 t152 t153 t154 t155 t156 t157 t158 t159 t160 t161 t162 t163 t164 t165 t166 t167 t168 t169 t170 t171 t172 t173 t174 t175 t176 t177 t178 t179 t180 t181 t182 t183 t184 t185 t186 t187 t188 t189 t190 t191 t192 t193 t194 t195 t196 t197 t198 t199 t200 t201 t202 t203 t204 t205 t206 t207 t208 t209 t210 t211 t212 t213 t214 t215 t216 t217 t218 t219 t220 t221 t222 t223 t224 t225 t226 t227 t228 t229 t230 t231 t232 t233 t234 fs2 k2 w2 hF2 hk2 hl2 hBF2 hBG2 hS2
      have HBW : Hid (Bwd n m P S D e (dlo (-e) (-(m : Int))) (dhi e n) bLo2 bHi2 (dlo ((n : Int) - m - e) (-(m : Int))) fs2 gs') := hF2.bwd HGR.out hk2
      have HL2 : Hid (fs2.length = N) := hl2.trans HFL1.out
      have HBF2 : Hid (Blk w2 F fs2) := hBF2
      have HBG2 : Hid (Blk w2 G gs') := hBG2
      have HS2 : Hid (Same2 F G w w2) := HS1.out.trans hS2
      clear hF2 hk2 hl2 hBF2 hBG2 hS2 HBF1 HBG1 HOU HFL1 HS1
      go_wp2_with fail
      refine (diag_any _ _ _ _ _ (by omega) (by omega) (by omega) (by omega) (by omega) (by omega) (by omega) (by omega)).mono ?_
      rintro _ wy ⟨rfl, rfl⟩
      go_wp2
      refine bwd_loop Ba Bb aLo bLo n m (ca - aLo) (cb - bLo) F G (n + m + 1) N aLo bLo (((n : Int) - m).tmod 2 != 0) e (dlo (-e) (-(m : Int))) (dhi e n) bLo2 bHi2 (fun i => f (aLo + i)) (fun j => g (bLo + j)) P S D fs2 gs' wy _ _ _ _ _ _ _ _ _ _ _ _ _ _ _ _ _ _ _ _ _ _ _ _ _ _ _ _ _ _ _ _ _ _ _ _ _ _ _ _ _ _ _ _ _ _ _ _ _ _ _ _ _ _ _ _ _ _ _ _ _ _ _ _ _ _ _ _ _ _ _ _ _ _ _ _ _ _ _ _ _ _ _ _ _ _ _ _ _ _ _ _ _ _ _ _ _ _ _ _ _ _ _ _ _ _ _ _ _ _ _ _ _ _ _ _ _ _ _ _ _ _ _ _ _ _ _ _ _ _ _ _ _ _ _ _ _ _ _ _ _ _ _ _ _ _ _ _ _ _ _ _ _ _ _ _ _ _ _ _ _ _ _ _ _ _ _ _ _ _ _ _ _ _ _ _ _ _ _ _ _ _ _ _ _ _ _ _ _ _ _ _ _ _ _ _ _ _ _ _ _ _ _ _ _ _ _ _ _ _ _ _ _ _ _ _ _ _ _ _ _ _ _ _ _ _ _ _ _ _ _ _ _ _ _ _ _ _ _ _ _ _ _ _ _ _ _ _ _ _ _ _ _ _ _ _ _ _ _ _ _ _ _ _ _ _ _ _ _ _ _ _ _ _ _ _ _ _ _ _ _ _ _ _ _ _ _ _ _ _ _ _ _ _ _ _ _ _ _ _ _ _ _ _ _ _ _ _ _ _ _ _ _ _ _ _ _ _ _ _ _ _ _ _ _ _ _ _ _ _ _ _ _ _ _ _ _ _ _ _ _ _ _ _ _ _ _ _ _ _ _ _ _ _ _ _ _ _ _
        HGR.out hD2 HO.out HBW.out b2 b4 hstop b6 b7 (by omega) (by omega) hN2 (by have := HL2.out; omega) (by have := HGL1.out; omega) hFG hFa hGa hFb hGb HBF2.out HBG2.out (fun i hi => ?_) (fun i hi => ?_) ?_ ?_
      · rw [HS2.out.cell hFa hGa]; exact HC1.out i hi
      · rw [HS2.out.cell hFb hGb]; exact HC2.out i hi
      · intro t10 t11 t31 t32 t33 t34 t251 t252 t253 t254 t255 t256 t257 t258 t259 t260 t261 t262 t263 t264 t265 t266 t267 t268 t269 t270 t271 t272 t273 t274 t275 t276 t277 t278 t279 t280 t281 t282 t283 t284 t285 t286 t287 t288 t289 t290 t291 t292 t293 t294 t295 t296 t297 t298 t299 t300 t301 t302 t303 t304 t305 t306 t307 t308 t309 t310 t311 t312 t313 t314 t315 t316 t317 t318 t319 t320 t321 t322 t323 t324 t325 t326 t327 t328 t329 t330 t331 t332 t333 t334 t335 t336 t337 t338 t339 t340 t341 t342 t343 t344 t345 t346 t347 t348 t349 t350 t351 t352 t353 t354 t355 t356 t357 t358 t359 t360 t361 t362 t363 t364 t365 t366 t367 t368 t369 t370 gs2 k3 w3 hB3 hk3 hl3 hBF3 hBG3 hS3
        have HOU : Hid (Outer n m P S D (e + 1) (dlo (-e) (-(m : Int))) (dhi e n) (dlo ((n : Int) - m - e) (-(m : Int))) (dhi ((n : Int) - m + e) n) fs2 gs2) := hB3.outer HGR.out hk3
        have HL3 : Hid (gs2.length = N) := hl3.trans HGL1.out
        have HBF3 : Hid (Blk w3 F fs2) := hBF3
        have HBG3 : Hid (Blk w3 G gs2) := hBG3
        have HS3 : Hid (Same2 F G w w3) := HS2.out.trans hS3
        clear hB3 hk3 hl3 hBF3 hBG3 hS3 HBF2 HBG2 HS2 HBW
        go_wp2
        go_roundw
        case rel =>
          repeat apply Exists.intro
          exact ⟨⟨e + 1, _, _, _, _, fs2, gs2, by go_num, rfl, rfl, rfl, rfl, HOU.out, HL2.out, HL3.out, HBF3.out, HBG3.out, HS3.out⟩, rfl⟩
        case measure => simp [intOf]; omega
      · intro t31 t32 t33 t34 t251 t252 t253 t254 t255 t256 t257 t258 t259 t260 t261 t262 t263 t264 t265 t266 t267 t268 t269 t270 t271 t272 t273 t274 t275 t276 t277 t278 t279 t280 t281 t282 t283 t284 t285 t286 t287 t288 t289 t290 t291 t292 t293 t294 t295 t296 t297 t298 t299 t300 t301 t302 t303 t304 t305 t306 t307 t308 t309 t310 t311 t312 t313 t314 t315 t316 t317 t318 t319 t320 t321 t322 t323 t324 t325 t326 t327 t328 t329 t330 t331 t332 t333 t334 t335 t336 t337 t338 t339 t340 t341 t342 t343 t344 t345 t346 t347 t348 t349 t350 t351 t352 t353 t354 t355 t356 t357 t358 t359 t360 t361 t362 t363 t364 t365 t366 t367 t368 t369 t370 gs2 X k3 w3 hgood hl3 hBF3 hBG3 hS3
        obtain ⟨x, y, q1, q2, q3⟩ := HGOOD.out X k3 hgood
        have hl3' := hl3.trans HGL1.out
        have hS3' := HS2.out.trans hS3
        rw [q1, q2]
        clear hgood q1 q2 hl3 hS3 HGOOD
        have HEND : Hid (∃ (fs' gs' : List Int), aLo ≤ x ∧ x ≤ aHi ∧ bLo ≤ y ∧ y ≤ bHi ∧ (0 < ((x - aLo : Nat) : Int) + (y - bLo : Nat) - 2 * lc f g aLo bLo (x - aLo) (y - bLo) ∧
          0 < ((aHi - x : Nat) : Int) + (bHi - y : Nat) - 2 * lc f g x y (aHi - x) (bHi - y) ∧
          (((x - aLo : Nat) : Int) + (y - bLo : Nat) - 2 * lc f g aLo bLo (x - aLo) (y - bLo)) + (((aHi - x : Nat) : Int) + (bHi - y : Nat) - 2 * lc f g x y (aHi - x) (bHi - y)) = ((aHi - aLo : Nat) : Int) + (bHi - bLo : Nat) - 2 * lc f g aLo bLo (aHi - aLo) (bHi - bLo)) ∧
          Blk w3 F fs' ∧ Blk w3 G gs' ∧ fs'.length = N ∧ gs'.length = N ∧ Same2 F G w w3) := ⟨fs2, gs2, q3.1, q3.2.1, q3.2.2.1, q3.2.2.2.1, q3.2.2.2.2, hBF3, hBG3, HL2.out, hl3', hS3'⟩
        clear q3 hBF3 hBG3 hl3' hS3'
        go_wp2
        go_ret2
        obtain ⟨fs3, gs3, r1, r2, r3, r4, ⟨r5, r6, r7⟩, r8⟩ := HEND.out
        exact ⟨x, y, fs3, gs3, rfl, r1, r2, r3, r4, r5, r6, r7, r8⟩
    · intro t27 t28 t29 t30 t105 t106 t107 t108 t109 t110 t111 t112 t113 t114 t115 t116 t117 t118 t119 t120 t121 t122 t123 t124 t125 t126 t127 t128 t129 t130 t131 t132 t133 t134 t135 t136 t137 t138 t139 t140 t141 t142 t143 t144 t145 t146 t147 t148 t149 t150 t151 t152 t153 t154 t155 t156 t157 t158 t159 t160 t161 t162 t163 t164 t165 t166 t167 t168 t169 t170 t171 t172 t173 t174 t175 t176 t177 t178 t179 t180 t181 t182 t183 t184 t185 t186 t187 t188 t189 t190 t191 t192 t193 t194 t195 t196 t197 t198 t199 t200 t201 t202 t203 t204 t205 t206 t207 t208 t209 t210 t211 t212 t213 t214 t215 t216 t217 t218 t219 t220 t221 t222 t223 t224 t225 t226 t227 t228 t229 t230 t231 t232 t233 t234 fs2 X k2 w2 hgood hl2 hBF2 hBG2 hS2
      obtain ⟨x, y, q1, q2, q3⟩ := HGOOD.out X k2 hgood
      have hl2' := hl2.trans HFL1.out
      have hS2' := HS1.out.trans hS2
      rw [q1, q2]
      clear hgood q1 q2 hl2 hS2 HGOOD
      have HEND : Hid (∃ (fs' gs' : List Int), aLo ≤ x ∧ x ≤ aHi ∧ bLo ≤ y ∧ y ≤ bHi ∧ (0 < ((x - aLo : Nat) : Int) + (y - bLo : Nat) - 2 * lc f g aLo bLo (x - aLo) (y - bLo) ∧
          0 < ((aHi - x : Nat) : Int) + (bHi - y : Nat) - 2 * lc f g x y (aHi - x) (bHi - y) ∧
          (((x - aLo : Nat) : Int) + (y - bLo : Nat) - 2 * lc f g aLo bLo (x - aLo) (y - bLo)) + (((aHi - x : Nat) : Int) + (bHi - y : Nat) - 2 * lc f g x y (aHi - x) (bHi - y)) = ((aHi - aLo : Nat) : Int) + (bHi - bLo : Nat) - 2 * lc f g aLo bLo (aHi - aLo) (bHi - bLo)) ∧
          Blk w2 F fs' ∧ Blk w2 G gs' ∧ fs'.length = N ∧ gs'.length = N ∧ Same2 F G w w2) := ⟨fs2, gs', q3.1, q3.2.1, q3.2.2.1, q3.2.2.2.1, q3.2.2.2.2, hBF2, hBG2, hl2', HGL1.out, hS2'⟩
      clear q3 hBF2 hBG2 hl2' hS2'
      go_wp2
      go_ret2
      obtain ⟨fs3, gs3, r1, r2, r3, r4, ⟨r5, r6, r7⟩, r8⟩ := HEND.out
      exact ⟨x, y, fs3, gs3, rfl, r1, r2, r3, r4, r5, r6, r7, r8⟩
end Go.Proofs.Qxb6602961a.W
