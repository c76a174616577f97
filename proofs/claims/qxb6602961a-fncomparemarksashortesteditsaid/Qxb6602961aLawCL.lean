/- FnCompareMarksAShortestEdit's three loops, walked. -/
import Derived.Test.Qxb6602961aCmpA
import Derived.Test.Qxb6602961aMarks
namespace Go.Proofs.Qxb6602961a.W
open Go.RowKit Myers
set_option linter.unusedVariables false

/-- the marks of a list -/
def mks (bs : List Bool) : Nat → Bool := fun i => bs.getD i false

set_option maxRecDepth 100000 in
set_option maxHeartbeats 1000000 in
theorem chkA (C n cp lo hi : Nat) (ao : Option Addr) (bs : List Bool) (w : World) (Q : Exit → Act → World → Prop)
    (s1 s4 s5 s6 s7 s8 s9 s10 s11 s12 s14 s16 s17 s18 s19 s20 s21 s22 s23 s24 s25 s26 s27 s28 s29 s30 s31 s32 s33 s34 s35 s36 s37 s38 s39 s40 s41 s42 s43 s44 s45 s46 s47 s48 s49 s50 s51 s52 s53 s54 s55 s56 s57 s58 s59 s60 s61 s62 s63 s64 s65 s66 s67 s68 s69 s70 s71 s72 s73 s74 s75 s76 s77 s78 s79 s80 s81 s82 s83 s84 s85 s86 s87 s88 s89 s90 s91 s92 s93 s94 s95 s96 s97 s98 s99 s100 s101 s102 s103 s104 s105 s106 s107 s108 s109 s110 s111 s112 s113 s114 s115 s116 s117 s118 s119 s120 s121 s122 s123 s124 s125 s126 s127 s128 s129 s130 s131 s132 s133 s134 s135 s136 s137 s138 s139 s140 s141 s142 s143 s144 s145 s146 s147 s148 s149 s150 s151 s152 s153 s154 s155 s156 s157 s158 s159 s160 s161 s162 s163 s164 s165 s166 s167 s168 s169 s170 s171 s172 s173 s174 s175 s176 s177 s178 s179 s180 s181 s182 s183 s184 s185 s186 s187 s188 s189 s190 s191 s192 s193 : Value)
    (hn : n ≤ 1024) (hl : bs.length = n) (hb : BBlk w C bs) (hin : ∀ i, i < n → bs.getD i false = true → lo ≤ i ∧ i < hi)
    (hexit : ∀ (t12 t15 t86 t87 t88 t89 t90 t91 t92 t93 t94 t95 t96 t97 t98 t99 t100 t101 t102 t103 t104 t105 : Value), Q (.exit 0) ⟨List.toArray (.slice ao n cp :: s1 :: .int .i64 lo :: .int .i64 hi :: s4 :: s5 :: s6 :: s7 :: s8 :: s9 :: s10 :: s11 :: t12 :: .slice (some ⟨C, 0, none⟩) n n :: s14 :: t15 :: s16 :: s17 :: s18 :: s19 :: s20 :: s21 :: s22 :: s23 :: s24 :: s25 :: s26 :: s27 :: s28 :: s29 :: s30 :: s31 :: s32 :: s33 :: s34 :: s35 :: s36 :: s37 :: s38 :: s39 :: s40 :: s41 :: s42 :: s43 :: s44 :: s45 :: s46 :: s47 :: s48 :: s49 :: s50 :: s51 :: s52 :: s53 :: s54 :: s55 :: s56 :: s57 :: s58 :: s59 :: s60 :: s61 :: s62 :: s63 :: s64 :: s65 :: s66 :: s67 :: s68 :: s69 :: s70 :: s71 :: s72 :: s73 :: s74 :: s75 :: s76 :: s77 :: s78 :: s79 :: s80 :: s81 :: s82 :: s83 :: s84 :: s85 :: t86 :: t87 :: t88 :: t89 :: t90 :: t91 :: t92 :: t93 :: t94 :: t95 :: t96 :: t97 :: t98 :: t99 :: t100 :: t101 :: t102 :: t103 :: t104 :: t105 :: s106 :: s107 :: s108 :: s109 :: s110 :: s111 :: s112 :: s113 :: s114 :: s115 :: s116 :: s117 :: s118 :: s119 :: s120 :: s121 :: s122 :: s123 :: s124 :: s125 :: s126 :: s127 :: s128 :: s129 :: s130 :: s131 :: s132 :: s133 :: s134 :: s135 :: s136 :: s137 :: s138 :: s139 :: s140 :: s141 :: s142 :: s143 :: s144 :: s145 :: s146 :: s147 :: s148 :: s149 :: s150 :: s151 :: s152 :: s153 :: s154 :: s155 :: s156 :: s157 :: s158 :: s159 :: s160 :: s161 :: s162 :: s163 :: s164 :: s165 :: s166 :: s167 :: s168 :: s169 :: s170 :: s171 :: s172 :: s173 :: s174 :: s175 :: s176 :: s177 :: s178 :: s179 :: s180 :: s181 :: s182 :: s183 :: s184 :: s185 :: s186 :: s187 :: s188 :: s189 :: s190 :: s191 :: s192 :: s193 :: []), []⟩ w) :
    Code.wp Try.prog (.loop (pick (Try.f3.body.getD .skip) 0)) Q ⟨List.toArray (.slice ao n cp :: s1 :: .int .i64 lo :: .int .i64 hi :: s4 :: s5 :: s6 :: s7 :: s8 :: s9 :: s10 :: s11 :: s12 :: .slice (some ⟨C, 0, none⟩) n n :: s14 :: .int .i64 0 :: s16 :: s17 :: s18 :: s19 :: s20 :: s21 :: s22 :: s23 :: s24 :: s25 :: s26 :: s27 :: s28 :: s29 :: s30 :: s31 :: s32 :: s33 :: s34 :: s35 :: s36 :: s37 :: s38 :: s39 :: s40 :: s41 :: s42 :: s43 :: s44 :: s45 :: s46 :: s47 :: s48 :: s49 :: s50 :: s51 :: s52 :: s53 :: s54 :: s55 :: s56 :: s57 :: s58 :: s59 :: s60 :: s61 :: s62 :: s63 :: s64 :: s65 :: s66 :: s67 :: s68 :: s69 :: s70 :: s71 :: s72 :: s73 :: s74 :: s75 :: s76 :: s77 :: s78 :: s79 :: s80 :: s81 :: s82 :: s83 :: s84 :: s85 :: s86 :: s87 :: s88 :: s89 :: s90 :: s91 :: s92 :: s93 :: s94 :: s95 :: s96 :: s97 :: s98 :: s99 :: s100 :: s101 :: s102 :: s103 :: s104 :: s105 :: s106 :: s107 :: s108 :: s109 :: s110 :: s111 :: s112 :: s113 :: s114 :: s115 :: s116 :: s117 :: s118 :: s119 :: s120 :: s121 :: s122 :: s123 :: s124 :: s125 :: s126 :: s127 :: s128 :: s129 :: s130 :: s131 :: s132 :: s133 :: s134 :: s135 :: s136 :: s137 :: s138 :: s139 :: s140 :: s141 :: s142 :: s143 :: s144 :: s145 :: s146 :: s147 :: s148 :: s149 :: s150 :: s151 :: s152 :: s153 :: s154 :: s155 :: s156 :: s157 :: s158 :: s159 :: s160 :: s161 :: s162 :: s163 :: s164 :: s165 :: s166 :: s167 :: s168 :: s169 :: s170 :: s171 :: s172 :: s173 :: s174 :: s175 :: s176 :: s177 :: s178 :: s179 :: s180 :: s181 :: s182 :: s183 :: s184 :: s185 :: s186 :: s187 :: s188 :: s189 :: s190 :: s191 :: s192 :: s193 :: []), []⟩ w := by
  conv => arg 2; arg 1; whnf
  have HX : Hid (∀ (t12 t15 t86 t87 t88 t89 t90 t91 t92 t93 t94 t95 t96 t97 t98 t99 t100 t101 t102 t103 t104 t105 : Value), Q (.exit 0) ⟨List.toArray (.slice ao n cp :: s1 :: .int .i64 lo :: .int .i64 hi :: s4 :: s5 :: s6 :: s7 :: s8 :: s9 :: s10 :: s11 :: t12 :: .slice (some ⟨C, 0, none⟩) n n :: s14 :: t15 :: s16 :: s17 :: s18 :: s19 :: s20 :: s21 :: s22 :: s23 :: s24 :: s25 :: s26 :: s27 :: s28 :: s29 :: s30 :: s31 :: s32 :: s33 :: s34 :: s35 :: s36 :: s37 :: s38 :: s39 :: s40 :: s41 :: s42 :: s43 :: s44 :: s45 :: s46 :: s47 :: s48 :: s49 :: s50 :: s51 :: s52 :: s53 :: s54 :: s55 :: s56 :: s57 :: s58 :: s59 :: s60 :: s61 :: s62 :: s63 :: s64 :: s65 :: s66 :: s67 :: s68 :: s69 :: s70 :: s71 :: s72 :: s73 :: s74 :: s75 :: s76 :: s77 :: s78 :: s79 :: s80 :: s81 :: s82 :: s83 :: s84 :: s85 :: t86 :: t87 :: t88 :: t89 :: t90 :: t91 :: t92 :: t93 :: t94 :: t95 :: t96 :: t97 :: t98 :: t99 :: t100 :: t101 :: t102 :: t103 :: t104 :: t105 :: s106 :: s107 :: s108 :: s109 :: s110 :: s111 :: s112 :: s113 :: s114 :: s115 :: s116 :: s117 :: s118 :: s119 :: s120 :: s121 :: s122 :: s123 :: s124 :: s125 :: s126 :: s127 :: s128 :: s129 :: s130 :: s131 :: s132 :: s133 :: s134 :: s135 :: s136 :: s137 :: s138 :: s139 :: s140 :: s141 :: s142 :: s143 :: s144 :: s145 :: s146 :: s147 :: s148 :: s149 :: s150 :: s151 :: s152 :: s153 :: s154 :: s155 :: s156 :: s157 :: s158 :: s159 :: s160 :: s161 :: s162 :: s163 :: s164 :: s165 :: s166 :: s167 :: s168 :: s169 :: s170 :: s171 :: s172 :: s173 :: s174 :: s175 :: s176 :: s177 :: s178 :: s179 :: s180 :: s181 :: s182 :: s183 :: s184 :: s185 :: s186 :: s187 :: s188 :: s189 :: s190 :: s191 :: s192 :: s193 :: []), []⟩ w) := hexit
  have HL : Hid (bs.length = n) := hl
  have HB : Hid (BBlk w C bs) := hb
  have HI : Hid (∀ i, i < n → bs.getD i false = true → lo ≤ i ∧ i < hi) := hin
  clear hexit hl hb hin
  go_loop [15] (fun iv => ∃ k : Nat, k ≤ n ∧ iv = .int .i64 k) (fun iv => n - (intOf iv).toNat)
  case atStart => exact ⟨0, by omega, rfl⟩
  case round =>
    obtain ⟨k, hk, rfl⟩ := hrel
    by_cases hlt : k < n
    · have c := HB.out.cell k (by have := HL.out; omega)
      have hi' := HI.out k hlt
      cases hm : bs.getD k false with
      | false =>
        rw [hm] at c
        clear hi' hm
        go_wp2
        go_round
        case rel => exact ⟨k + 1, by omega, by go_num⟩
        case measure => simp [intOf]; omega
      | true =>
        rw [hm] at c
        obtain ⟨g1, g2⟩ := hi' hm
        clear hi' hm
        go_wp2
        go_round
        case rel => exact ⟨k + 1, by omega, by go_num⟩
        case measure => simp [intOf]; omega
    · go_wp2
      exact HX.out _ _ _ _ _ _ _ _ _ _ _ _ _ _ _ _ _ _ _ _ _ _

set_option maxRecDepth 100000 in
set_option maxHeartbeats 1000000 in
theorem chkB (C n cp lo hi : Nat) (ao : Option Addr) (bs : List Bool) (w : World) (Q : Exit → Act → World → Prop)
    (s0 s2 s3 s6 s7 s8 s9 s10 s11 s12 s13 s15 s17 s18 s19 s20 s21 s22 s23 s24 s25 s26 s27 s28 s29 s30 s31 s32 s33 s34 s35 s36 s37 s38 s39 s40 s41 s42 s43 s44 s45 s46 s47 s48 s49 s50 s51 s52 s53 s54 s55 s56 s57 s58 s59 s60 s61 s62 s63 s64 s65 s66 s67 s68 s69 s70 s71 s72 s73 s74 s75 s76 s77 s78 s79 s80 s81 s82 s83 s84 s85 s86 s87 s88 s89 s90 s91 s92 s93 s94 s95 s96 s97 s98 s99 s100 s101 s102 s103 s104 s105 s106 s107 s108 s109 s110 s111 s112 s113 s114 s115 s116 s117 s118 s119 s120 s121 s122 s123 s124 s125 s126 s127 s128 s129 s130 s131 s132 s133 s134 s135 s136 s137 s138 s139 s140 s141 s142 s143 s144 s145 s146 s147 s148 s149 s150 s151 s152 s153 s154 s155 s156 s157 s158 s159 s160 s161 s162 s163 s164 s165 s166 s167 s168 s169 s170 s171 s172 s173 s174 s175 s176 s177 s178 s179 s180 s181 s182 s183 s184 s185 s186 s187 s188 s189 s190 s191 s192 s193 : Value)
    (hn : n ≤ 1024) (hl : bs.length = n) (hb : BBlk w C bs) (hin : ∀ i, i < n → bs.getD i false = true → lo ≤ i ∧ i < hi)
    (hexit : ∀ (t12 t16 t106 t107 t108 t109 t110 t111 t112 t113 t114 t115 t116 t117 t118 t119 t120 t121 t122 t123 t124 t125 : Value), Q (.exit 2) ⟨List.toArray (s0 :: .slice ao n cp :: s2 :: s3 :: .int .i64 lo :: .int .i64 hi :: s6 :: s7 :: s8 :: s9 :: s10 :: s11 :: t12 :: s13 :: .slice (some ⟨C, 0, none⟩) n n :: s15 :: t16 :: s17 :: s18 :: s19 :: s20 :: s21 :: s22 :: s23 :: s24 :: s25 :: s26 :: s27 :: s28 :: s29 :: s30 :: s31 :: s32 :: s33 :: s34 :: s35 :: s36 :: s37 :: s38 :: s39 :: s40 :: s41 :: s42 :: s43 :: s44 :: s45 :: s46 :: s47 :: s48 :: s49 :: s50 :: s51 :: s52 :: s53 :: s54 :: s55 :: s56 :: s57 :: s58 :: s59 :: s60 :: s61 :: s62 :: s63 :: s64 :: s65 :: s66 :: s67 :: s68 :: s69 :: s70 :: s71 :: s72 :: s73 :: s74 :: s75 :: s76 :: s77 :: s78 :: s79 :: s80 :: s81 :: s82 :: s83 :: s84 :: s85 :: s86 :: s87 :: s88 :: s89 :: s90 :: s91 :: s92 :: s93 :: s94 :: s95 :: s96 :: s97 :: s98 :: s99 :: s100 :: s101 :: s102 :: s103 :: s104 :: s105 :: t106 :: t107 :: t108 :: t109 :: t110 :: t111 :: t112 :: t113 :: t114 :: t115 :: t116 :: t117 :: t118 :: t119 :: t120 :: t121 :: t122 :: t123 :: t124 :: t125 :: s126 :: s127 :: s128 :: s129 :: s130 :: s131 :: s132 :: s133 :: s134 :: s135 :: s136 :: s137 :: s138 :: s139 :: s140 :: s141 :: s142 :: s143 :: s144 :: s145 :: s146 :: s147 :: s148 :: s149 :: s150 :: s151 :: s152 :: s153 :: s154 :: s155 :: s156 :: s157 :: s158 :: s159 :: s160 :: s161 :: s162 :: s163 :: s164 :: s165 :: s166 :: s167 :: s168 :: s169 :: s170 :: s171 :: s172 :: s173 :: s174 :: s175 :: s176 :: s177 :: s178 :: s179 :: s180 :: s181 :: s182 :: s183 :: s184 :: s185 :: s186 :: s187 :: s188 :: s189 :: s190 :: s191 :: s192 :: s193 :: []), []⟩ w) :
    Code.wp Try.prog (.loop (pick (Try.f3.body.getD .skip) 1)) Q ⟨List.toArray (s0 :: .slice ao n cp :: s2 :: s3 :: .int .i64 lo :: .int .i64 hi :: s6 :: s7 :: s8 :: s9 :: s10 :: s11 :: s12 :: s13 :: .slice (some ⟨C, 0, none⟩) n n :: s15 :: .int .i64 0 :: s17 :: s18 :: s19 :: s20 :: s21 :: s22 :: s23 :: s24 :: s25 :: s26 :: s27 :: s28 :: s29 :: s30 :: s31 :: s32 :: s33 :: s34 :: s35 :: s36 :: s37 :: s38 :: s39 :: s40 :: s41 :: s42 :: s43 :: s44 :: s45 :: s46 :: s47 :: s48 :: s49 :: s50 :: s51 :: s52 :: s53 :: s54 :: s55 :: s56 :: s57 :: s58 :: s59 :: s60 :: s61 :: s62 :: s63 :: s64 :: s65 :: s66 :: s67 :: s68 :: s69 :: s70 :: s71 :: s72 :: s73 :: s74 :: s75 :: s76 :: s77 :: s78 :: s79 :: s80 :: s81 :: s82 :: s83 :: s84 :: s85 :: s86 :: s87 :: s88 :: s89 :: s90 :: s91 :: s92 :: s93 :: s94 :: s95 :: s96 :: s97 :: s98 :: s99 :: s100 :: s101 :: s102 :: s103 :: s104 :: s105 :: s106 :: s107 :: s108 :: s109 :: s110 :: s111 :: s112 :: s113 :: s114 :: s115 :: s116 :: s117 :: s118 :: s119 :: s120 :: s121 :: s122 :: s123 :: s124 :: s125 :: s126 :: s127 :: s128 :: s129 :: s130 :: s131 :: s132 :: s133 :: s134 :: s135 :: s136 :: s137 :: s138 :: s139 :: s140 :: s141 :: s142 :: s143 :: s144 :: s145 :: s146 :: s147 :: s148 :: s149 :: s150 :: s151 :: s152 :: s153 :: s154 :: s155 :: s156 :: s157 :: s158 :: s159 :: s160 :: s161 :: s162 :: s163 :: s164 :: s165 :: s166 :: s167 :: s168 :: s169 :: s170 :: s171 :: s172 :: s173 :: s174 :: s175 :: s176 :: s177 :: s178 :: s179 :: s180 :: s181 :: s182 :: s183 :: s184 :: s185 :: s186 :: s187 :: s188 :: s189 :: s190 :: s191 :: s192 :: s193 :: []), []⟩ w := by
  conv => arg 2; arg 1; whnf
  have HX : Hid (∀ (t12 t16 t106 t107 t108 t109 t110 t111 t112 t113 t114 t115 t116 t117 t118 t119 t120 t121 t122 t123 t124 t125 : Value), Q (.exit 2) ⟨List.toArray (s0 :: .slice ao n cp :: s2 :: s3 :: .int .i64 lo :: .int .i64 hi :: s6 :: s7 :: s8 :: s9 :: s10 :: s11 :: t12 :: s13 :: .slice (some ⟨C, 0, none⟩) n n :: s15 :: t16 :: s17 :: s18 :: s19 :: s20 :: s21 :: s22 :: s23 :: s24 :: s25 :: s26 :: s27 :: s28 :: s29 :: s30 :: s31 :: s32 :: s33 :: s34 :: s35 :: s36 :: s37 :: s38 :: s39 :: s40 :: s41 :: s42 :: s43 :: s44 :: s45 :: s46 :: s47 :: s48 :: s49 :: s50 :: s51 :: s52 :: s53 :: s54 :: s55 :: s56 :: s57 :: s58 :: s59 :: s60 :: s61 :: s62 :: s63 :: s64 :: s65 :: s66 :: s67 :: s68 :: s69 :: s70 :: s71 :: s72 :: s73 :: s74 :: s75 :: s76 :: s77 :: s78 :: s79 :: s80 :: s81 :: s82 :: s83 :: s84 :: s85 :: s86 :: s87 :: s88 :: s89 :: s90 :: s91 :: s92 :: s93 :: s94 :: s95 :: s96 :: s97 :: s98 :: s99 :: s100 :: s101 :: s102 :: s103 :: s104 :: s105 :: t106 :: t107 :: t108 :: t109 :: t110 :: t111 :: t112 :: t113 :: t114 :: t115 :: t116 :: t117 :: t118 :: t119 :: t120 :: t121 :: t122 :: t123 :: t124 :: t125 :: s126 :: s127 :: s128 :: s129 :: s130 :: s131 :: s132 :: s133 :: s134 :: s135 :: s136 :: s137 :: s138 :: s139 :: s140 :: s141 :: s142 :: s143 :: s144 :: s145 :: s146 :: s147 :: s148 :: s149 :: s150 :: s151 :: s152 :: s153 :: s154 :: s155 :: s156 :: s157 :: s158 :: s159 :: s160 :: s161 :: s162 :: s163 :: s164 :: s165 :: s166 :: s167 :: s168 :: s169 :: s170 :: s171 :: s172 :: s173 :: s174 :: s175 :: s176 :: s177 :: s178 :: s179 :: s180 :: s181 :: s182 :: s183 :: s184 :: s185 :: s186 :: s187 :: s188 :: s189 :: s190 :: s191 :: s192 :: s193 :: []), []⟩ w) := hexit
  have HL : Hid (bs.length = n) := hl
  have HB : Hid (BBlk w C bs) := hb
  have HI : Hid (∀ i, i < n → bs.getD i false = true → lo ≤ i ∧ i < hi) := hin
  clear hexit hl hb hin
  go_loop [16] (fun iv => ∃ k : Nat, k ≤ n ∧ iv = .int .i64 k) (fun iv => n - (intOf iv).toNat)
  case atStart => exact ⟨0, by omega, rfl⟩
  case round =>
    obtain ⟨k, hk, rfl⟩ := hrel
    by_cases hlt : k < n
    · have c := HB.out.cell k (by have := HL.out; omega)
      have hi' := HI.out k hlt
      cases hm : bs.getD k false with
      | false =>
        rw [hm] at c
        clear hi' hm
        go_wp2
        go_round
        case rel => exact ⟨k + 1, by omega, by go_num⟩
        case measure => simp [intOf]; omega
      | true =>
        rw [hm] at c
        obtain ⟨g1, g2⟩ := hi' hm
        clear hi' hm
        go_wp2
        go_round
        case rel => exact ⟨k + 1, by omega, by go_num⟩
        case measure => simp [intOf]; omega
    · go_wp2
      exact HX.out _ _ _ _ _ _ _ _ _ _ _ _ _ _ _ _ _ _ _ _ _ _

set_option maxRecDepth 100000 in
set_option maxHeartbeats 2000000 in
theorem mrgL (CA CB Ba Bb la lb ca cb aLo aHi bLo bHi : Nat) (ao bo : Option Addr) (f g : Nat → Int) (ma mb : List Bool) (D : Int) (w : World) (Q : Exit → Act → World → Prop)
    (s2 s4 s6 s7 s8 s9 s10 s11 s12 s15 s16 s20 s21 s22 s23 s24 s25 s26 s27 s28 s29 s30 s31 s32 s33 s34 s35 s36 s37 s38 s39 s40 s41 s42 s43 s44 s45 s46 s47 s48 s49 s50 s51 s52 s53 s54 s55 s56 s57 s58 s59 s60 s61 s62 s63 s64 s65 s66 s67 s68 s69 s70 s71 s72 s73 s74 s75 s76 s77 s78 s79 s80 s81 s82 s83 s84 s85 s86 s87 s88 s89 s90 s91 s92 s93 s94 s95 s96 s97 s98 s99 s100 s101 s102 s103 s104 s105 s106 s107 s108 s109 s110 s111 s112 s113 s114 s115 s116 s117 s118 s119 s120 s121 s122 s123 s124 s125 s126 s127 s128 s129 s130 s131 s132 s133 s134 s135 s136 s137 s138 s139 s140 s141 s142 s143 s144 s145 s146 s147 s148 s149 s150 s151 s152 s153 s154 s155 s156 s157 s158 s159 s160 s161 s162 s163 s164 s165 s166 s167 s168 s169 s170 s171 s172 s173 s174 s175 s176 s177 s178 s179 s180 s181 s182 s183 s184 s185 s186 s187 s188 s189 s190 s191 s192 s193 : Value)
    (hla : la ≤ 1024) (hlb : lb ≤ 1024) (h1 : aLo ≤ aHi) (h2 : aHi ≤ la) (h3 : bLo ≤ bHi) (h4 : bHi ≤ lb) (la1 : ma.length = la) (lb1 : mb.length = lb) (hma : BBlk w CA ma) (hmb : BBlk w CB mb)
    (hao : 0 < la → ao = some ⟨Ba, 0, none⟩) (hbo : 0 < lb → bo = some ⟨Bb, 0, none⟩)
    (hca : ∀ i, i < la → w.cell? ⟨Ba, i, none⟩ = some (.int .i64 (f i))) (hcb : ∀ i, i < lb → w.cell? ⟨Bb, i, none⟩ = some (.int .i64 (g i)))
    (hM : un f (mks ma) (aHi - aLo) aLo = un g (mks mb) (bHi - bLo) bLo) (hD : (cnt (mks ma) (aHi - aLo) aLo : Int) + cnt (mks mb) (bHi - bLo) bLo = D)
    (hexit : ∀ (t12 t18 t19 t128 t129 t130 t131 t132 t133 t134 t135 t136 t137 t138 t139 t140 t141 t142 t143 t144 t145 t146 t147 t148 t149 t150 t151 t152 t153 t154 t155 t156 t157 t158 t159 t160 t161 t162 t163 t164 t165 t166 t167 t168 t169 t170 t171 t172 t173 t174 t175 t176 t177 t178 t179 t180 t181 t182 : Value) (w' : World), Still w w' → Q (.exit 4) ⟨List.toArray (.slice ao la ca :: .slice bo lb cb :: s2 :: .int .i64 aHi :: s4 :: .int .i64 bHi :: s6 :: s7 :: s8 :: s9 :: s10 :: s11 :: t12 :: .slice (some ⟨CA, 0, none⟩) la la :: .slice (some ⟨CB, 0, none⟩) lb lb :: s15 :: s16 :: .int .i64 D :: t18 :: t19 :: s20 :: s21 :: s22 :: s23 :: s24 :: s25 :: s26 :: s27 :: s28 :: s29 :: s30 :: s31 :: s32 :: s33 :: s34 :: s35 :: s36 :: s37 :: s38 :: s39 :: s40 :: s41 :: s42 :: s43 :: s44 :: s45 :: s46 :: s47 :: s48 :: s49 :: s50 :: s51 :: s52 :: s53 :: s54 :: s55 :: s56 :: s57 :: s58 :: s59 :: s60 :: s61 :: s62 :: s63 :: s64 :: s65 :: s66 :: s67 :: s68 :: s69 :: s70 :: s71 :: s72 :: s73 :: s74 :: s75 :: s76 :: s77 :: s78 :: s79 :: s80 :: s81 :: s82 :: s83 :: s84 :: s85 :: s86 :: s87 :: s88 :: s89 :: s90 :: s91 :: s92 :: s93 :: s94 :: s95 :: s96 :: s97 :: s98 :: s99 :: s100 :: s101 :: s102 :: s103 :: s104 :: s105 :: s106 :: s107 :: s108 :: s109 :: s110 :: s111 :: s112 :: s113 :: s114 :: s115 :: s116 :: s117 :: s118 :: s119 :: s120 :: s121 :: s122 :: s123 :: s124 :: s125 :: s126 :: s127 :: t128 :: t129 :: t130 :: t131 :: t132 :: t133 :: t134 :: t135 :: t136 :: t137 :: t138 :: t139 :: t140 :: t141 :: t142 :: t143 :: t144 :: t145 :: t146 :: t147 :: t148 :: t149 :: t150 :: t151 :: t152 :: t153 :: t154 :: t155 :: t156 :: t157 :: t158 :: t159 :: t160 :: t161 :: t162 :: t163 :: t164 :: t165 :: t166 :: t167 :: t168 :: t169 :: t170 :: t171 :: t172 :: t173 :: t174 :: t175 :: t176 :: t177 :: t178 :: t179 :: t180 :: t181 :: t182 :: s183 :: s184 :: s185 :: s186 :: s187 :: s188 :: s189 :: s190 :: s191 :: s192 :: s193 :: []), []⟩ w') :
    Code.wp Try.prog (.loop (pick (Try.f3.body.getD .skip) 2)) Q ⟨List.toArray (.slice ao la ca :: .slice bo lb cb :: s2 :: .int .i64 aHi :: s4 :: .int .i64 bHi :: s6 :: s7 :: s8 :: s9 :: s10 :: s11 :: s12 :: .slice (some ⟨CA, 0, none⟩) la la :: .slice (some ⟨CB, 0, none⟩) lb lb :: s15 :: s16 :: .int .i64 0 :: .int .i64 aLo :: .int .i64 bLo :: s20 :: s21 :: s22 :: s23 :: s24 :: s25 :: s26 :: s27 :: s28 :: s29 :: s30 :: s31 :: s32 :: s33 :: s34 :: s35 :: s36 :: s37 :: s38 :: s39 :: s40 :: s41 :: s42 :: s43 :: s44 :: s45 :: s46 :: s47 :: s48 :: s49 :: s50 :: s51 :: s52 :: s53 :: s54 :: s55 :: s56 :: s57 :: s58 :: s59 :: s60 :: s61 :: s62 :: s63 :: s64 :: s65 :: s66 :: s67 :: s68 :: s69 :: s70 :: s71 :: s72 :: s73 :: s74 :: s75 :: s76 :: s77 :: s78 :: s79 :: s80 :: s81 :: s82 :: s83 :: s84 :: s85 :: s86 :: s87 :: s88 :: s89 :: s90 :: s91 :: s92 :: s93 :: s94 :: s95 :: s96 :: s97 :: s98 :: s99 :: s100 :: s101 :: s102 :: s103 :: s104 :: s105 :: s106 :: s107 :: s108 :: s109 :: s110 :: s111 :: s112 :: s113 :: s114 :: s115 :: s116 :: s117 :: s118 :: s119 :: s120 :: s121 :: s122 :: s123 :: s124 :: s125 :: s126 :: s127 :: s128 :: s129 :: s130 :: s131 :: s132 :: s133 :: s134 :: s135 :: s136 :: s137 :: s138 :: s139 :: s140 :: s141 :: s142 :: s143 :: s144 :: s145 :: s146 :: s147 :: s148 :: s149 :: s150 :: s151 :: s152 :: s153 :: s154 :: s155 :: s156 :: s157 :: s158 :: s159 :: s160 :: s161 :: s162 :: s163 :: s164 :: s165 :: s166 :: s167 :: s168 :: s169 :: s170 :: s171 :: s172 :: s173 :: s174 :: s175 :: s176 :: s177 :: s178 :: s179 :: s180 :: s181 :: s182 :: s183 :: s184 :: s185 :: s186 :: s187 :: s188 :: s189 :: s190 :: s191 :: s192 :: s193 :: []), []⟩ w := by
  conv => arg 2; arg 1; whnf
  have HX : Hid (∀ (t12 t18 t19 t128 t129 t130 t131 t132 t133 t134 t135 t136 t137 t138 t139 t140 t141 t142 t143 t144 t145 t146 t147 t148 t149 t150 t151 t152 t153 t154 t155 t156 t157 t158 t159 t160 t161 t162 t163 t164 t165 t166 t167 t168 t169 t170 t171 t172 t173 t174 t175 t176 t177 t178 t179 t180 t181 t182 : Value) (w' : World), Still w w' → Q (.exit 4) ⟨List.toArray (.slice ao la ca :: .slice bo lb cb :: s2 :: .int .i64 aHi :: s4 :: .int .i64 bHi :: s6 :: s7 :: s8 :: s9 :: s10 :: s11 :: t12 :: .slice (some ⟨CA, 0, none⟩) la la :: .slice (some ⟨CB, 0, none⟩) lb lb :: s15 :: s16 :: .int .i64 D :: t18 :: t19 :: s20 :: s21 :: s22 :: s23 :: s24 :: s25 :: s26 :: s27 :: s28 :: s29 :: s30 :: s31 :: s32 :: s33 :: s34 :: s35 :: s36 :: s37 :: s38 :: s39 :: s40 :: s41 :: s42 :: s43 :: s44 :: s45 :: s46 :: s47 :: s48 :: s49 :: s50 :: s51 :: s52 :: s53 :: s54 :: s55 :: s56 :: s57 :: s58 :: s59 :: s60 :: s61 :: s62 :: s63 :: s64 :: s65 :: s66 :: s67 :: s68 :: s69 :: s70 :: s71 :: s72 :: s73 :: s74 :: s75 :: s76 :: s77 :: s78 :: s79 :: s80 :: s81 :: s82 :: s83 :: s84 :: s85 :: s86 :: s87 :: s88 :: s89 :: s90 :: s91 :: s92 :: s93 :: s94 :: s95 :: s96 :: s97 :: s98 :: s99 :: s100 :: s101 :: s102 :: s103 :: s104 :: s105 :: s106 :: s107 :: s108 :: s109 :: s110 :: s111 :: s112 :: s113 :: s114 :: s115 :: s116 :: s117 :: s118 :: s119 :: s120 :: s121 :: s122 :: s123 :: s124 :: s125 :: s126 :: s127 :: t128 :: t129 :: t130 :: t131 :: t132 :: t133 :: t134 :: t135 :: t136 :: t137 :: t138 :: t139 :: t140 :: t141 :: t142 :: t143 :: t144 :: t145 :: t146 :: t147 :: t148 :: t149 :: t150 :: t151 :: t152 :: t153 :: t154 :: t155 :: t156 :: t157 :: t158 :: t159 :: t160 :: t161 :: t162 :: t163 :: t164 :: t165 :: t166 :: t167 :: t168 :: t169 :: t170 :: t171 :: t172 :: t173 :: t174 :: t175 :: t176 :: t177 :: t178 :: t179 :: t180 :: t181 :: t182 :: s183 :: s184 :: s185 :: s186 :: s187 :: s188 :: s189 :: s190 :: s191 :: s192 :: s193 :: []), []⟩ w') := hexit
  have HCA : Hid (∀ i, i < la → w.cell? ⟨Ba, i, none⟩ = some (.int .i64 (f i))) := hca
  have HCB : Hid (∀ i, i < lb → w.cell? ⟨Bb, i, none⟩ = some (.int .i64 (g i))) := hcb
  have HAO : Hid (0 < la → ao = some ⟨Ba, 0, none⟩) := hao
  have HBO : Hid (0 < lb → bo = some ⟨Bb, 0, none⟩) := hbo
  have HMA : Hid (BBlk w CA ma) := hma
  have HMB : Hid (BBlk w CB mb) := hmb
  have HLA : Hid (ma.length = la) := la1
  have HLB : Hid (mb.length = lb) := lb1
  have HM : Hid (un f (mks ma) (aHi - aLo) aLo = un g (mks mb) (bHi - bLo) bLo) := hM
  have HD : Hid ((cnt (mks ma) (aHi - aLo) aLo : Int) + cnt (mks mb) (bHi - bLo) bLo = D) := hD
  clear hexit hca hcb hao hbo hma hmb la1 lb1 hM hD
  go_loopw [17, 18, 19] (fun cv iv jv wr => ∃ (c i j : Nat), cv = .int .i64 c ∧ iv = .int .i64 i ∧ jv = .int .i64 j ∧ Still w wr ∧ aLo ≤ i ∧ i ≤ aHi ∧ bLo ≤ j ∧ j ≤ bHi ∧ c ≤ (i - aLo) + (j - bLo) ∧ un f (mks ma) (aHi - i) i = un g (mks mb) (bHi - j) j ∧ (c : Int) + cnt (mks ma) (aHi - i) i + cnt (mks mb) (bHi - j) j = D) (fun _ iv jv _ => (aHi - (intOf iv).toNat) + (bHi - (intOf jv).toNat))
  case atStart => exact ⟨0, aLo, bLo, rfl, rfl, rfl, Still.refl _, by omega, by omega, by omega, by omega, by omega, HM.out, by have := HD.out; omega⟩
  case round =>
    obtain ⟨c, i, j, rfl, rfl, rfl, hst, g1, g2, g3, g4, g5, g6, g7⟩ := hrel
    have HST : Hid (Still w wr) := hst
    have H6 : Hid (un f (mks ma) (aHi - i) i = un g (mks mb) (bHi - j) j) := g6
    have H7 : Hid ((c : Int) + cnt (mks ma) (aHi - i) i + cnt (mks mb) (bHi - j) j = D) := g7
    clear hst g6 g7 HM HD
    by_cases ci : i < aHi
    · have ka : wr.cell? ⟨CA, i, none⟩ = some (.bool (ma.getD i false)) := by rw [HST.out.cell]; exact HMA.out.cell i (by have := HLA.out; omega)
      cases hmi : ma.getD i false with
      | true =>
        rw [hmi] at ka
        have HMI : Hid (mks ma i = true) := hmi
        clear hmi
        go_wp2
        go_roundw
        case rel =>
          have e1 := un_hit f (mks ma) (aHi - (i + 1)) i HMI.out
          have e2 := cnt_hit (mks ma) (aHi - (i + 1)) i HMI.out
          rw [show aHi - (i + 1) + 1 = aHi - i by omega] at e1 e2
          refine ⟨c + 1, i + 1, j, by go_num, by go_num, rfl, HST.out, by omega, by omega, by omega, by omega, by omega, by rw [← e1]; exact H6.out, ?_⟩
          have := H7.out
          omega
        case measure => simp [intOf]; omega
      | false =>
        rw [hmi] at ka
        have HMI : Hid (mks ma i = false) := hmi
        clear hmi
        have e1 := un_miss f (mks ma) (aHi - (i + 1)) i HMI.out
        have e2 := cnt_miss (mks ma) (aHi - (i + 1)) i HMI.out
        rw [show aHi - (i + 1) + 1 = aHi - i by omega] at e1 e2
        have HE1 : Hid (un f (mks ma) (aHi - i) i = f i :: un f (mks ma) (aHi - (i + 1)) (i + 1)) := e1
        have HE2 : Hid (cnt (mks ma) (aHi - i) i = cnt (mks ma) (aHi - (i + 1)) (i + 1)) := e2
        clear e1 e2
        have cj : j < bHi := by
          by_cases cj : j < bHi
          · exact cj
          · exfalso
            have h6 := H6.out
            rw [HE1.out, show bHi - j = 0 by omega] at h6
            simp [un] at h6
        have kb : wr.cell? ⟨CB, j, none⟩ = some (.bool (mb.getD j false)) := by rw [HST.out.cell]; exact HMB.out.cell j (by have := HLB.out; omega)
        cases hmj : mb.getD j false with
        | true =>
          rw [hmj] at kb
          have HMJ : Hid (mks mb j = true) := hmj
          clear hmj
          go_wp2
          go_roundw
          case rel =>
            have e1 := un_hit g (mks mb) (bHi - (j + 1)) j HMJ.out
            have e2 := cnt_hit (mks mb) (bHi - (j + 1)) j HMJ.out
            rw [show bHi - (j + 1) + 1 = bHi - j by omega] at e1 e2
            refine ⟨c + 1, i, j + 1, by go_num, rfl, by go_num, HST.out, by omega, by omega, by omega, by omega, by omega, by rw [← e1]; exact H6.out, ?_⟩
            have := H7.out
            omega
          case measure => simp [intOf]; omega
        | false =>
          rw [hmj] at kb
          have HMJ : Hid (mks mb j = false) := hmj
          clear hmj
          have e1 := un_miss g (mks mb) (bHi - (j + 1)) j HMJ.out
          have e2 := cnt_miss (mks mb) (bHi - (j + 1)) j HMJ.out
          rw [show bHi - (j + 1) + 1 = bHi - j by omega] at e1 e2
          have h6 := H6.out
          rw [HE1.out, e1] at h6
          have hfg : f i = g j := (List.cons.inj h6).1
          have HT : Hid (un f (mks ma) (aHi - (i + 1)) (i + 1) = un g (mks mb) (bHi - (j + 1)) (j + 1)) := (List.cons.inj h6).2
          have HC : Hid ((c : Int) + cnt (mks ma) (aHi - (i + 1)) (i + 1) + cnt (mks mb) (bHi - (j + 1)) (j + 1) = D) := by
            have := H7.out
            rw [HE2.out, e2] at this
            exact this
          obtain rfl := HAO.out (by omega)
          obtain rfl := HBO.out (by omega)
          have q1 := HCA.out i (by omega)
          rw [← HST.out.cell] at q1
          have q2 := HCB.out j (by omega)
          rw [← HST.out.cell, ← hfg] at q2
          generalize f i = z at q1 q2
          have d1 : ((i : Int) == (aHi : Int)) = false := by
            have : (i : Int) ≠ aHi := by omega
            simpa using this
          have d2 : ((j : Int) == (bHi : Int)) = false := by
            have : (j : Int) ≠ bHi := by omega
            simpa using this
          clear e1 e2 h6 hfg HE1 HE2 HCA HCB HAO HBO H6 H7
          go_wp2
          go_quiet (fail)
          go_wp2
          go_roundw
          case rel => exact ⟨c, i + 1, j + 1, rfl, by go_num, by go_num, HST.out.drewN _, by omega, by omega, by omega, by omega, by omega, HT.out, HC.out⟩
          case measure => simp [intOf]; omega
    · obtain rfl : i = aHi := by omega
      by_cases cj : j < bHi
      · have kb : wr.cell? ⟨CB, j, none⟩ = some (.bool (mb.getD j false)) := by rw [HST.out.cell]; exact HMB.out.cell j (by have := HLB.out; omega)
        have hmj : mb.getD j false = true := by
          cases hmj : mb.getD j false with
          | true => rfl
          | false =>
            exfalso
            have e1 := un_miss g (mks mb) (bHi - (j + 1)) j hmj
            rw [show bHi - (j + 1) + 1 = bHi - j by omega] at e1
            have h6 := H6.out
            rw [e1, Nat.sub_self] at h6
            simp [un] at h6
        rw [hmj] at kb
        have HMJ : Hid (mks mb j = true) := hmj
        clear hmj
        go_wp2
        go_roundw
        case rel =>
          have e1 := un_hit g (mks mb) (bHi - (j + 1)) j HMJ.out
          have e2 := cnt_hit (mks mb) (bHi - (j + 1)) j HMJ.out
          rw [show bHi - (j + 1) + 1 = bHi - j by omega] at e1 e2
          refine ⟨c + 1, i, j + 1, by go_num, rfl, by go_num, HST.out, by omega, by omega, by omega, by omega, by omega, by rw [← e1]; exact H6.out, ?_⟩
          have := H7.out
          omega
        case measure => simp [intOf]; omega
      · obtain rfl : j = bHi := by omega
        have hcD : (c : Int) = D := by
          have := H7.out
          rw [Nat.sub_self, Nat.sub_self] at this
          simp [cnt] at this
          exact this
        rw [hcD]
        clear hcD
        go_wp2
        exact HX.out _ _ _ _ _ _ _ _ _ _ _ _ _ _ _ _ _ _ _ _ _ _ _ _ _ _ _ _ _ _ _ _ _ _ _ _ _ _ _ _ _ _ _ _ _ _ _ _ _ _ _ _ _ _ _ _ _ _ _ HST.out

end Go.Proofs.Qxb6602961a.W
