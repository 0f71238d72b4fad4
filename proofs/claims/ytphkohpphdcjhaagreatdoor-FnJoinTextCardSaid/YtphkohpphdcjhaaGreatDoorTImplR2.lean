/- The front of String: a scheme, an authority. -/
import Derived.Test.YtphkohpphdcjhaaGreatDoorTImplR1
set_option linter.unusedVariables false
namespace Go.Proofs.YtphkohpphdcjhaaGreatDoor
open Go.RowKit Go.Proofs.YtphkohpphdcjhaaGreatDoorW.PrintWords
open U (L S)

set_option maxRecDepth 100000 in
set_option maxHeartbeats 12800000 in
theorem st_164 (W W3 : World) (g : Nat) (v : V) (c19 : Bool) (es eh ep hu c7 : Bool) (hs3 : v.host.size ≤ 4000) (HU : Hid (IsU W g v)) (HT : Hid (Tab W)) (HV : Hid (v.Sm 4000)) (HL3 : Hid ((tScheme v es).length ≤ 4001)) (B3 : Hid (Bu W (tScheme v es) W3)) (HEH : Hid (em v.host = eh)) (HEPA : Hid (em v.path = ep)) (HHU : Hid (v.hasUser = hu)) (HC7 : Hid ((!eh || !ep || hu) = c7))
    {x1 x2 x4 x5 x6 x7 x8 x9 x10 x11 x12 x13 x14 x15 x16 x17 x18 x19 x20 x21 x22 x23 x24 x25 x26 x27 x28 x29 x30 x31 x32 x33 x34 x35 x36 x37 x38 x39 x40 x41 x42 x43 x44 x45 x46 x47 x48 x49 x50 x51 x52 x53 x54 x55 x56 x57 x58 x59 x60 x61 x62 x63 x64 x65 x66 x67 x68 x69 x70 x71 x72 x73 x74 x75 x76 x77 x78 x79 x80 x81 x82 x83 x84 x85 x86 x87 x88 x89 x90 x91 x92 x93 x94 x95 x96 x97 x98 x99 x100 x101 x102 x103 x104 x105 x106 x107 x108 x109 x110 x111 x112 x113 x114 x115 x116 x117 x118 x119 x120 x121 x122 x123 x124 x125 x126 x127 x128 x129 x130 x131 x132 x133 x134 x135 x136 x137 x138 x139 x140 x141 x142 x143 x144 x145 x146 x147 x148 x149 x150 x151 x152 x153 x154 x155 x156 x157 x158 x159 x160 x161 x162 x163 x165 x166 x167 x168 x169 x170 x171 x172 x173 x174 x175 x176 x177 x178 x179 x180 x181 x182 x183 x184 x185 x186 x187 x188 x189 x190 x191 x192 x193 x194 x195 x196 x197 x198 x199 x200 x201 x202 x203 x204 x205 x206 x207 x208 x209 x210 x211 x212 x213 x214 x215 x216 x217 x218 x219 x220 x221 x222 x223 x224 x225 x226 x227 x228 x229 x230 x231 x232 x233 x234 x235 x236 x237 x238 x239 x240 x241 x242 x243 x244 x245 x246 x247 x248 x249 x250 x251 x252 x253 x254 x255 x256 x257 x258 x259 x260 x261 x262 x263 x264 x265 x266 x267 x268 x269 x270 x271 x272 x273 x274 x275 x276 x277 x278 x279 x280 x281 x282 x283 x284 x285 : Value} (K : Act → World → Prop) (Q : Exit → Act → World → Prop)
    (HK : Hid (∀ (y8 y9 y165 y166 y167 y168 y169 y170 y171 y172 y173 y174 y175 y176 y177 y178 y179 y180 y181 y182 y183 y184 y185 y186 y187 y188 y189 y190 y191 y192 y193 y194 y195 y196 y197 y198 y199 y200 y201 y202 y203 : Value) (wy : World), Bu W (tScheme v es ++ (if c19 = true then [] else tAuth v c7)) wy → K ⟨List.toArray ((.pointer (some ⟨g, 0, none⟩)) :: x1 :: x2 :: (.pointer (some ⟨W.heap.size, 0, none⟩)) :: x4 :: x5 :: x6 :: x7 :: y8 :: y9 :: x10 :: x11 :: x12 :: x13 :: x14 :: x15 :: x16 :: x17 :: x18 :: x19 :: x20 :: x21 :: x22 :: x23 :: x24 :: x25 :: x26 :: x27 :: x28 :: x29 :: x30 :: x31 :: x32 :: x33 :: x34 :: x35 :: x36 :: x37 :: x38 :: x39 :: x40 :: x41 :: x42 :: x43 :: x44 :: x45 :: x46 :: x47 :: x48 :: x49 :: x50 :: x51 :: x52 :: x53 :: x54 :: x55 :: x56 :: x57 :: x58 :: x59 :: x60 :: x61 :: x62 :: x63 :: x64 :: x65 :: x66 :: x67 :: x68 :: x69 :: x70 :: x71 :: x72 :: x73 :: x74 :: x75 :: x76 :: x77 :: x78 :: x79 :: x80 :: x81 :: x82 :: x83 :: x84 :: x85 :: x86 :: x87 :: x88 :: x89 :: x90 :: x91 :: x92 :: x93 :: x94 :: x95 :: x96 :: x97 :: x98 :: x99 :: x100 :: x101 :: x102 :: x103 :: x104 :: x105 :: x106 :: x107 :: x108 :: x109 :: x110 :: x111 :: x112 :: x113 :: x114 :: x115 :: x116 :: x117 :: x118 :: x119 :: x120 :: x121 :: x122 :: x123 :: x124 :: x125 :: x126 :: x127 :: x128 :: x129 :: x130 :: x131 :: x132 :: x133 :: x134 :: x135 :: x136 :: x137 :: x138 :: x139 :: x140 :: x141 :: x142 :: x143 :: x144 :: x145 :: x146 :: x147 :: x148 :: x149 :: x150 :: x151 :: x152 :: x153 :: x154 :: x155 :: x156 :: x157 :: x158 :: x159 :: x160 :: x161 :: x162 :: x163 :: (.bool c19) :: y165 :: y166 :: y167 :: y168 :: y169 :: y170 :: y171 :: y172 :: y173 :: y174 :: y175 :: y176 :: y177 :: y178 :: y179 :: y180 :: y181 :: y182 :: y183 :: y184 :: y185 :: y186 :: y187 :: y188 :: y189 :: y190 :: y191 :: y192 :: y193 :: y194 :: y195 :: y196 :: y197 :: y198 :: y199 :: y200 :: y201 :: y202 :: y203 :: x204 :: x205 :: x206 :: x207 :: x208 :: x209 :: x210 :: x211 :: x212 :: x213 :: x214 :: x215 :: x216 :: x217 :: x218 :: x219 :: x220 :: x221 :: x222 :: x223 :: x224 :: x225 :: x226 :: x227 :: x228 :: x229 :: x230 :: x231 :: x232 :: x233 :: x234 :: x235 :: x236 :: x237 :: x238 :: x239 :: x240 :: x241 :: x242 :: x243 :: x244 :: x245 :: x246 :: x247 :: x248 :: x249 :: x250 :: x251 :: x252 :: x253 :: x254 :: x255 :: x256 :: x257 :: x258 :: x259 :: x260 :: x261 :: x262 :: x263 :: x264 :: x265 :: x266 :: x267 :: x268 :: x269 :: x270 :: x271 :: x272 :: x273 :: x274 :: x275 :: x276 :: x277 :: x278 :: x279 :: x280 :: x281 :: x282 :: x283 :: x284 :: x285 :: []), []⟩ wy)) :
    Code.wp Tryz.prog (cT 164) (Exit.then K Q) ⟨List.toArray ((.pointer (some ⟨g, 0, none⟩)) :: x1 :: x2 :: (.pointer (some ⟨W.heap.size, 0, none⟩)) :: x4 :: x5 :: x6 :: x7 :: x8 :: x9 :: x10 :: x11 :: x12 :: x13 :: x14 :: x15 :: x16 :: x17 :: x18 :: x19 :: x20 :: x21 :: x22 :: x23 :: x24 :: x25 :: x26 :: x27 :: x28 :: x29 :: x30 :: x31 :: x32 :: x33 :: x34 :: x35 :: x36 :: x37 :: x38 :: x39 :: x40 :: x41 :: x42 :: x43 :: x44 :: x45 :: x46 :: x47 :: x48 :: x49 :: x50 :: x51 :: x52 :: x53 :: x54 :: x55 :: x56 :: x57 :: x58 :: x59 :: x60 :: x61 :: x62 :: x63 :: x64 :: x65 :: x66 :: x67 :: x68 :: x69 :: x70 :: x71 :: x72 :: x73 :: x74 :: x75 :: x76 :: x77 :: x78 :: x79 :: x80 :: x81 :: x82 :: x83 :: x84 :: x85 :: x86 :: x87 :: x88 :: x89 :: x90 :: x91 :: x92 :: x93 :: x94 :: x95 :: x96 :: x97 :: x98 :: x99 :: x100 :: x101 :: x102 :: x103 :: x104 :: x105 :: x106 :: x107 :: x108 :: x109 :: x110 :: x111 :: x112 :: x113 :: x114 :: x115 :: x116 :: x117 :: x118 :: x119 :: x120 :: x121 :: x122 :: x123 :: x124 :: x125 :: x126 :: x127 :: x128 :: x129 :: x130 :: x131 :: x132 :: x133 :: x134 :: x135 :: x136 :: x137 :: x138 :: x139 :: x140 :: x141 :: x142 :: x143 :: x144 :: x145 :: x146 :: x147 :: x148 :: x149 :: x150 :: x151 :: x152 :: x153 :: x154 :: x155 :: x156 :: x157 :: x158 :: x159 :: x160 :: x161 :: x162 :: x163 :: (.bool c19) :: x165 :: x166 :: x167 :: x168 :: x169 :: x170 :: x171 :: x172 :: x173 :: x174 :: x175 :: x176 :: x177 :: x178 :: x179 :: x180 :: x181 :: x182 :: x183 :: x184 :: x185 :: x186 :: x187 :: x188 :: x189 :: x190 :: x191 :: x192 :: x193 :: x194 :: x195 :: x196 :: x197 :: x198 :: x199 :: x200 :: x201 :: x202 :: x203 :: x204 :: x205 :: x206 :: x207 :: x208 :: x209 :: x210 :: x211 :: x212 :: x213 :: x214 :: x215 :: x216 :: x217 :: x218 :: x219 :: x220 :: x221 :: x222 :: x223 :: x224 :: x225 :: x226 :: x227 :: x228 :: x229 :: x230 :: x231 :: x232 :: x233 :: x234 :: x235 :: x236 :: x237 :: x238 :: x239 :: x240 :: x241 :: x242 :: x243 :: x244 :: x245 :: x246 :: x247 :: x248 :: x249 :: x250 :: x251 :: x252 :: x253 :: x254 :: x255 :: x256 :: x257 :: x258 :: x259 :: x260 :: x261 :: x262 :: x263 :: x264 :: x265 :: x266 :: x267 :: x268 :: x269 :: x270 :: x271 :: x272 :: x273 :: x274 :: x275 :: x276 :: x277 :: x278 :: x279 :: x280 :: x281 :: x282 :: x283 :: x284 :: x285 :: []), []⟩ W3 := by
  conv => arg 2; whnf
  have hl3 := HL3.out
  cases c19
  · obtain ⟨u3, k3, m3⟩ := HU.out.keep B3.out.below
    have c2 : W3.cell? ⟨g, 2, none⟩ = some u3 := cell_at k3 rfl
    have c3 : W3.cell? ⟨g, 3, none⟩ = some (.string v.host) := cell_at k3 rfl
    have c4 : W3.cell? ⟨g, 4, none⟩ = some (.string v.path) := cell_at k3 rfl
    have hw := m3.ways
    rw [HHU.out] at hw
    have HW := Lib.hid hw
    clear hw m3 k3
    go_upto_region 20 with fail
    go_cut [183] from 165 to 183 (fun t wx => t = .bool c7 ∧ wx = W3)
    case first =>
      rcases em_ways _ _ HEH with ⟨rfl, e1⟩ | ⟨rfl, e1⟩
      · rcases em_ways _ _ HEPA with ⟨rfl, e2⟩ | ⟨rfl, e2⟩
        · rcases HW.out with ⟨rfl, rfl⟩ | ⟨rfl, k, rfl, hk⟩
          all_goals
            go_wp2_with fail
            go_meet
            exact ⟨by rw [← HC7.out]; rfl, rfl⟩
        · go_wp2_with fail
          go_meet
          exact ⟨by rw [← HC7.out]; rfl, rfl⟩
      · go_wp2_with fail
        go_meet
        exact ⟨by rw [← HC7.out]; rfl, rfl⟩
    obtain ⟨rfl, e⟩ := hcut
    obtain rfl := e.symm
    clear c2 c3 c4 HW
    go_upto_if 183 with fail
    refine st_183 W W3 g v (tScheme v es) c7 (by omega) B3 _ _ ?_
    refine Lib.hid ?_
    intro _ w4 b4
    have hl4 : (tScheme v es ++ (if c7 = true then [47, 47] else [])).length ≤ 5000 := by
      rw [List.length_append]
      cases c7 <;> simp <;> omega
    obtain ⟨X, HX⟩ : ∃ X, Hid (tScheme v es ++ (if c7 = true then [47, 47] else []) = X) := ⟨_, Lib.hid rfl⟩
    rw [HX.out] at b4 hl4
    have B4 := Lib.hid b4
    clear b4
    obtain ⟨u4, k4, m4⟩ := HU.out.keep B4.out.below
    have c2 : w4.cell? ⟨g, 2, none⟩ = some u4 := cell_at k4 rfl
    have hw := m4.ways
    rw [HHU.out] at hw
    have HW4 := Lib.hid hw
    clear hw k4 m4
    go_upto_region 23 with fail
    go_cut [190] from 189 to 190 (fun t wx => t = .bool hu ∧ wx = w4)
    case first =>
      rcases HW4.out with ⟨rfl, rfl⟩ | ⟨rfl, k, rfl, hk⟩
      all_goals
        go_wp2_with fail
        go_meet
        exact ⟨rfl, rfl⟩
    obtain ⟨rfl, e⟩ := hcut
    obtain rfl := e.symm
    clear c2
    go_upto_if 190 with fail
    refine st_190 W w4 g v X hu u4 hl4 B4 HT HV HW4 _ _ ?_
    refine Lib.hid ?_
    intro _ _ _ _ w5 b5 hl5
    obtain ⟨Y, HY⟩ : ∃ Y, Hid (X ++ (if hu = true then U.userText v ++ [64] else []) = Y) := ⟨_, Lib.hid rfl⟩
    rw [HY.out] at b5 hl5
    have B5 := Lib.hid b5
    have hl5' := hl5.out
    clear b5
    obtain ⟨u5, k5, m5⟩ := HU.out.keep B5.out.below
    have c3 : w5.cell? ⟨g, 3, none⟩ = some (.string v.host) := cell_at k5 rfl
    clear k5 m5
    go_upto_region 27 with fail
    go_cut [200] from 199 to 200 (fun t wx => t = .bool (!eh) ∧ wx = w5)
    case first =>
      rcases em_ways _ _ HEH with ⟨rfl, e1⟩ | ⟨rfl, e1⟩
      all_goals
        go_wp2_with fail
        go_meet
        exact ⟨rfl, rfl⟩
    obtain ⟨rfl, e⟩ := hcut
    obtain rfl := e.symm
    clear c3
    go_upto_if 200 with fail
    refine st_200 W w5 g v Y eh hl5' B5 HT hs3 HEH _ _ ?_
    refine Lib.hid ?_
    intro _ _ _ w6 b6
    have B6 := Lib.hid b6
    clear b6
    go_wp2_with fail
    exact HK.out _ _ _ _ _ _ _ _ _ _ _ _ _ _ _ _ _ _ _ _ _ _ _ _ _ _ _ _ _ _ _ _ _ _ _ _ _ _ _ _ _ _ (by
      have hz : tScheme v es ++ tAuth v c7 = Y ++ U.esc 2 (L v.host) := by
        rw [← HY.out, ← HX.out, tAuth, HHU.out]
        simp
      rw [if_neg (by decide), hz]
      exact B6.out)
  · go_wp2_with fail
    exact HK.out _ _ _ _ _ _ _ _ _ _ _ _ _ _ _ _ _ _ _ _ _ _ _ _ _ _ _ _ _ _ _ _ _ _ _ _ _ _ _ _ _ _ (by simpa using B3.out)
set_option maxRecDepth 100000 in
set_option maxHeartbeats 12800000 in
theorem st_146 (W W3 : World) (g : Nat) (v : V) (om c18 c19 c6 : Bool) (es eh ep hu c7 : Bool) (hs3 : v.host.size ≤ 4000) (HU : Hid (IsU W g v)) (HT : Hid (Tab W)) (HV : Hid (v.Sm 4000)) (HL3 : Hid ((tScheme v es).length ≤ 4001)) (B3 : Hid (Bu W (tScheme v es) W3)) (HEH : Hid (em v.host = eh)) (HEPA : Hid (em v.path = ep)) (HHU : Hid (v.hasUser = hu)) (HC7 : Hid ((!eh || !ep || hu) = c7)) (HOM : Hid (v.omitHost = om)) (HC19 : Hid ((om && eh && !hu) = c19)) (HC6 : Hid (c6 = (c18 && !c19)))
    {x1 x2 x4 x5 x6 x7 x8 x9 x10 x11 x12 x13 x14 x15 x16 x17 x18 x19 x20 x21 x22 x23 x24 x25 x26 x27 x28 x29 x30 x31 x32 x33 x34 x35 x36 x37 x38 x39 x40 x41 x42 x43 x44 x45 x46 x47 x48 x49 x50 x51 x52 x53 x54 x55 x56 x57 x58 x59 x60 x61 x62 x63 x64 x65 x66 x67 x68 x69 x70 x71 x72 x73 x74 x75 x76 x77 x78 x79 x80 x81 x82 x83 x84 x85 x86 x87 x88 x89 x90 x91 x92 x93 x94 x95 x96 x97 x98 x99 x100 x101 x102 x103 x104 x105 x106 x107 x108 x109 x110 x111 x112 x113 x114 x115 x116 x117 x118 x119 x120 x121 x122 x123 x124 x125 x126 x127 x128 x129 x130 x131 x132 x133 x134 x135 x136 x137 x138 x139 x140 x141 x142 x143 x144 x145 x147 x148 x149 x150 x151 x152 x153 x154 x155 x156 x157 x158 x159 x160 x161 x162 x163 x164 x165 x166 x167 x168 x169 x170 x171 x172 x173 x174 x175 x176 x177 x178 x179 x180 x181 x182 x183 x184 x185 x186 x187 x188 x189 x190 x191 x192 x193 x194 x195 x196 x197 x198 x199 x200 x201 x202 x203 x204 x205 x206 x207 x208 x209 x210 x211 x212 x213 x214 x215 x216 x217 x218 x219 x220 x221 x222 x223 x224 x225 x226 x227 x228 x229 x230 x231 x232 x233 x234 x235 x236 x237 x238 x239 x240 x241 x242 x243 x244 x245 x246 x247 x248 x249 x250 x251 x252 x253 x254 x255 x256 x257 x258 x259 x260 x261 x262 x263 x264 x265 x266 x267 x268 x269 x270 x271 x272 x273 x274 x275 x276 x277 x278 x279 x280 x281 x282 x283 x284 x285 : Value} (K : Act → World → Prop) (Q : Exit → Act → World → Prop)
    (HK : Hid (∀ (y8 y9 y147 y148 y149 y150 y151 y152 y153 y154 y155 y156 y157 y158 y159 y160 y161 y162 y163 y164 y165 y166 y167 y168 y169 y170 y171 y172 y173 y174 y175 y176 y177 y178 y179 y180 y181 y182 y183 y184 y185 y186 y187 y188 y189 y190 y191 y192 y193 y194 y195 y196 y197 y198 y199 y200 y201 y202 y203 : Value) (wy : World), Bu W (tFront v es c6 c7) wy → K ⟨List.toArray ((.pointer (some ⟨g, 0, none⟩)) :: x1 :: x2 :: (.pointer (some ⟨W.heap.size, 0, none⟩)) :: x4 :: x5 :: x6 :: x7 :: y8 :: y9 :: x10 :: x11 :: x12 :: x13 :: x14 :: x15 :: x16 :: x17 :: x18 :: x19 :: x20 :: x21 :: x22 :: x23 :: x24 :: x25 :: x26 :: x27 :: x28 :: x29 :: x30 :: x31 :: x32 :: x33 :: x34 :: x35 :: x36 :: x37 :: x38 :: x39 :: x40 :: x41 :: x42 :: x43 :: x44 :: x45 :: x46 :: x47 :: x48 :: x49 :: x50 :: x51 :: x52 :: x53 :: x54 :: x55 :: x56 :: x57 :: x58 :: x59 :: x60 :: x61 :: x62 :: x63 :: x64 :: x65 :: x66 :: x67 :: x68 :: x69 :: x70 :: x71 :: x72 :: x73 :: x74 :: x75 :: x76 :: x77 :: x78 :: x79 :: x80 :: x81 :: x82 :: x83 :: x84 :: x85 :: x86 :: x87 :: x88 :: x89 :: x90 :: x91 :: x92 :: x93 :: x94 :: x95 :: x96 :: x97 :: x98 :: x99 :: x100 :: x101 :: x102 :: x103 :: x104 :: x105 :: x106 :: x107 :: x108 :: x109 :: x110 :: x111 :: x112 :: x113 :: x114 :: x115 :: x116 :: x117 :: x118 :: x119 :: x120 :: x121 :: x122 :: x123 :: x124 :: x125 :: x126 :: x127 :: x128 :: x129 :: x130 :: x131 :: x132 :: x133 :: x134 :: x135 :: x136 :: x137 :: x138 :: x139 :: x140 :: x141 :: x142 :: x143 :: x144 :: x145 :: (.bool c18) :: y147 :: y148 :: y149 :: y150 :: y151 :: y152 :: y153 :: y154 :: y155 :: y156 :: y157 :: y158 :: y159 :: y160 :: y161 :: y162 :: y163 :: y164 :: y165 :: y166 :: y167 :: y168 :: y169 :: y170 :: y171 :: y172 :: y173 :: y174 :: y175 :: y176 :: y177 :: y178 :: y179 :: y180 :: y181 :: y182 :: y183 :: y184 :: y185 :: y186 :: y187 :: y188 :: y189 :: y190 :: y191 :: y192 :: y193 :: y194 :: y195 :: y196 :: y197 :: y198 :: y199 :: y200 :: y201 :: y202 :: y203 :: x204 :: x205 :: x206 :: x207 :: x208 :: x209 :: x210 :: x211 :: x212 :: x213 :: x214 :: x215 :: x216 :: x217 :: x218 :: x219 :: x220 :: x221 :: x222 :: x223 :: x224 :: x225 :: x226 :: x227 :: x228 :: x229 :: x230 :: x231 :: x232 :: x233 :: x234 :: x235 :: x236 :: x237 :: x238 :: x239 :: x240 :: x241 :: x242 :: x243 :: x244 :: x245 :: x246 :: x247 :: x248 :: x249 :: x250 :: x251 :: x252 :: x253 :: x254 :: x255 :: x256 :: x257 :: x258 :: x259 :: x260 :: x261 :: x262 :: x263 :: x264 :: x265 :: x266 :: x267 :: x268 :: x269 :: x270 :: x271 :: x272 :: x273 :: x274 :: x275 :: x276 :: x277 :: x278 :: x279 :: x280 :: x281 :: x282 :: x283 :: x284 :: x285 :: []), []⟩ wy)) :
    Code.wp Tryz.prog (cT 146) (Exit.then K Q) ⟨List.toArray ((.pointer (some ⟨g, 0, none⟩)) :: x1 :: x2 :: (.pointer (some ⟨W.heap.size, 0, none⟩)) :: x4 :: x5 :: x6 :: x7 :: x8 :: x9 :: x10 :: x11 :: x12 :: x13 :: x14 :: x15 :: x16 :: x17 :: x18 :: x19 :: x20 :: x21 :: x22 :: x23 :: x24 :: x25 :: x26 :: x27 :: x28 :: x29 :: x30 :: x31 :: x32 :: x33 :: x34 :: x35 :: x36 :: x37 :: x38 :: x39 :: x40 :: x41 :: x42 :: x43 :: x44 :: x45 :: x46 :: x47 :: x48 :: x49 :: x50 :: x51 :: x52 :: x53 :: x54 :: x55 :: x56 :: x57 :: x58 :: x59 :: x60 :: x61 :: x62 :: x63 :: x64 :: x65 :: x66 :: x67 :: x68 :: x69 :: x70 :: x71 :: x72 :: x73 :: x74 :: x75 :: x76 :: x77 :: x78 :: x79 :: x80 :: x81 :: x82 :: x83 :: x84 :: x85 :: x86 :: x87 :: x88 :: x89 :: x90 :: x91 :: x92 :: x93 :: x94 :: x95 :: x96 :: x97 :: x98 :: x99 :: x100 :: x101 :: x102 :: x103 :: x104 :: x105 :: x106 :: x107 :: x108 :: x109 :: x110 :: x111 :: x112 :: x113 :: x114 :: x115 :: x116 :: x117 :: x118 :: x119 :: x120 :: x121 :: x122 :: x123 :: x124 :: x125 :: x126 :: x127 :: x128 :: x129 :: x130 :: x131 :: x132 :: x133 :: x134 :: x135 :: x136 :: x137 :: x138 :: x139 :: x140 :: x141 :: x142 :: x143 :: x144 :: x145 :: (.bool c18) :: x147 :: x148 :: x149 :: x150 :: x151 :: x152 :: x153 :: x154 :: x155 :: x156 :: x157 :: x158 :: x159 :: x160 :: x161 :: x162 :: x163 :: x164 :: x165 :: x166 :: x167 :: x168 :: x169 :: x170 :: x171 :: x172 :: x173 :: x174 :: x175 :: x176 :: x177 :: x178 :: x179 :: x180 :: x181 :: x182 :: x183 :: x184 :: x185 :: x186 :: x187 :: x188 :: x189 :: x190 :: x191 :: x192 :: x193 :: x194 :: x195 :: x196 :: x197 :: x198 :: x199 :: x200 :: x201 :: x202 :: x203 :: x204 :: x205 :: x206 :: x207 :: x208 :: x209 :: x210 :: x211 :: x212 :: x213 :: x214 :: x215 :: x216 :: x217 :: x218 :: x219 :: x220 :: x221 :: x222 :: x223 :: x224 :: x225 :: x226 :: x227 :: x228 :: x229 :: x230 :: x231 :: x232 :: x233 :: x234 :: x235 :: x236 :: x237 :: x238 :: x239 :: x240 :: x241 :: x242 :: x243 :: x244 :: x245 :: x246 :: x247 :: x248 :: x249 :: x250 :: x251 :: x252 :: x253 :: x254 :: x255 :: x256 :: x257 :: x258 :: x259 :: x260 :: x261 :: x262 :: x263 :: x264 :: x265 :: x266 :: x267 :: x268 :: x269 :: x270 :: x271 :: x272 :: x273 :: x274 :: x275 :: x276 :: x277 :: x278 :: x279 :: x280 :: x281 :: x282 :: x283 :: x284 :: x285 :: []), []⟩ W3 := by
  conv => arg 2; whnf
  cases c18
  · have h6 : c6 = false := HC6.out
    subst h6
    go_wp2_with fail
    exact HK.out _ _ _ _ _ _ _ _ _ _ _ _ _ _ _ _ _ _ _ _ _ _ _ _ _ _ _ _ _ _ _ _ _ _ _ _ _ _ _ _ _ _ _ _ _ _ _ _ _ _ _ _ _ _ _ _ _ _ _ _ (by simpa [tFront] using B3.out)
  · obtain ⟨u3, k3, m3⟩ := HU.out.keep B3.out.below
    have c2 : W3.cell? ⟨g, 2, none⟩ = some u3 := cell_at k3 rfl
    have c3 : W3.cell? ⟨g, 3, none⟩ = some (.string v.host) := cell_at k3 rfl
    have c10 : W3.cell? ⟨g, 10, none⟩ = some (.bool v.omitHost) := cell_at k3 rfl
    rw [HOM.out] at c10
    have hw := m3.ways
    rw [HHU.out] at hw
    have HW := Lib.hid hw
    clear hw m3 k3
    go_upto_region 19 with fail
    go_cut [164] from 147 to 164 (fun t wx => t = .bool c19 ∧ wx = W3)
    case first =>
      cases om
      · go_wp2_with fail
        go_meet
        exact ⟨by rw [← HC19.out]; rfl, rfl⟩
      · rcases em_ways _ _ HEH with ⟨rfl, e2⟩ | ⟨rfl, e2⟩
        · rcases HW.out with ⟨rfl, rfl⟩ | ⟨rfl, k, rfl, hk⟩
          all_goals
            go_wp2_with fail
            go_meet
            exact ⟨by rw [← HC19.out]; rfl, rfl⟩
        · go_wp2_with fail
          go_meet
          exact ⟨by rw [← HC19.out]; rfl, rfl⟩
    obtain ⟨rfl, e⟩ := hcut
    obtain rfl := e.symm
    clear c2 c3 c10 HW
    go_upto_if 164 with fail
    refine st_164 W W3 g v c19 es eh ep hu c7 hs3 HU HT HV HL3 B3 HEH HEPA HHU HC7 _ _ ?_
    refine Lib.hid ?_
    intro _ _ _ _ _ _ _ _ _ _ _ _ _ _ _ _ _ _ _ _ _ _ _ _ _ _ _ _ _ _ _ _ _ _ _ _ _ _ _ _ _ w6 b6
    have B6 := Lib.hid b6
    clear b6
    go_wp2_with fail
    exact HK.out _ _ _ _ _ _ _ _ _ _ _ _ _ _ _ _ _ _ _ _ _ _ _ _ _ _ _ _ _ _ _ _ _ _ _ _ _ _ _ _ _ _ _ _ _ _ _ _ _ _ _ _ _ _ _ _ _ _ _ _ (by
      have hz : tFront v es c6 c7 = tScheme v es ++ (if c19 = true then [] else tAuth v c7) := by
        rw [HC6.out, tFront]
        cases c19 <;> rfl
      rw [hz]
      exact B6.out)
end Go.Proofs.YtphkohpphdcjhaaGreatDoor
