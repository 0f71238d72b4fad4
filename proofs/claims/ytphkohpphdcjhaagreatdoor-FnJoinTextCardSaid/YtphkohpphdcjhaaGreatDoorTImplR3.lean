/- The body of String: what is opaque, or front and path. -/
import Derived.Test.YtphkohpphdcjhaaGreatDoorTImplR2
set_option linter.unusedVariables false
namespace Go.Proofs.YtphkohpphdcjhaaGreatDoor
open Go.RowKit Go.Proofs.YtphkohpphdcjhaaGreatDoorW.PrintWords
open U (L S)

set_option maxRecDepth 100000 in
set_option maxHeartbeats 12800000 in
theorem st_122 (W W3 : World) (g : Nat) (v : V) (es eo eh ep hu om : Bool) (q : ByteArray) (HU : Hid (IsU W g v)) (HT : Hid (Tab W)) (HV : Hid (v.Sm 4000)) (HL3 : Hid ((tScheme v es).length ≤ 4001)) (B3 : Hid (Bu W (tScheme v es) W3)) (HES : Hid (em v.scheme = es)) (HEH : Hid (em v.host = eh)) (HEPA : Hid (em v.path = ep)) (HHU : Hid (v.hasUser = hu)) (HOM : Hid (v.omitHost = om)) (HQ : Hid (S (U.escPath v) = q))
    {x1 x2 x4 x5 x6 x7 x8 x9 x10 x11 x12 x13 x14 x15 x16 x17 x18 x19 x20 x21 x22 x23 x24 x25 x26 x27 x28 x29 x30 x31 x32 x33 x34 x35 x36 x37 x38 x39 x40 x41 x42 x43 x44 x45 x46 x47 x48 x49 x50 x51 x52 x53 x54 x55 x56 x57 x58 x59 x60 x61 x62 x63 x64 x65 x66 x67 x68 x69 x70 x71 x72 x73 x74 x75 x76 x77 x78 x79 x80 x81 x82 x83 x84 x85 x86 x87 x88 x89 x90 x91 x92 x93 x94 x95 x96 x97 x98 x99 x100 x101 x102 x103 x104 x105 x106 x107 x108 x109 x110 x111 x112 x113 x114 x115 x116 x117 x118 x119 x120 x121 x123 x124 x125 x126 x127 x128 x129 x130 x131 x132 x133 x134 x135 x136 x137 x138 x139 x140 x141 x142 x143 x144 x145 x146 x147 x148 x149 x150 x151 x152 x153 x154 x155 x156 x157 x158 x159 x160 x161 x162 x163 x164 x165 x166 x167 x168 x169 x170 x171 x172 x173 x174 x175 x176 x177 x178 x179 x180 x181 x182 x183 x184 x185 x186 x187 x188 x189 x190 x191 x192 x193 x194 x195 x196 x197 x198 x199 x200 x201 x202 x203 x204 x205 x206 x207 x208 x209 x210 x211 x212 x213 x214 x215 x216 x217 x218 x219 x220 x221 x222 x223 x224 x225 x226 x227 x228 x229 x230 x231 x232 x233 x234 x235 x236 x237 x238 x239 x240 x241 x242 x243 x244 x245 x246 x247 x248 x249 x250 x251 x252 x253 x254 x255 x256 x257 x258 x259 x260 x261 x262 x263 x264 x265 x266 x267 x268 x269 x270 x271 x272 x273 x274 x275 x276 x277 x278 x279 x280 x281 x282 x283 x284 x285 : Value} (K : Act → World → Prop) (Q : Exit → Act → World → Prop)
    (HK : Hid (∀ (y8 y9 y10 y11 y12 y13 y123 y124 y125 y126 y127 y128 y129 y130 y131 y132 y133 y134 y135 y136 y137 y138 y139 y140 y141 y142 y143 y144 y145 y146 y147 y148 y149 y150 y151 y152 y153 y154 y155 y156 y157 y158 y159 y160 y161 y162 y163 y164 y165 y166 y167 y168 y169 y170 y171 y172 y173 y174 y175 y176 y177 y178 y179 y180 y181 y182 y183 y184 y185 y186 y187 y188 y189 y190 y191 y192 y193 y194 y195 y196 y197 y198 y199 y200 y201 y202 y203 y204 y205 y206 y207 y208 y209 y210 y211 y212 y213 y214 y215 y216 y217 y218 y219 y220 y221 y222 y223 y224 y225 y226 y227 y228 y229 y230 y231 y232 y233 y234 y235 y236 y237 y238 y239 y240 y241 y242 y243 y244 y245 y246 y247 y248 y249 y250 y251 y252 y253 y254 y255 y256 y257 y258 : Value) (wy : World), Bu W (tBody v es eo q) wy → Hid ((tBody v es eo q).length ≤ 200000) → K ⟨List.toArray ((.pointer (some ⟨g, 0, none⟩)) :: x1 :: x2 :: (.pointer (some ⟨W.heap.size, 0, none⟩)) :: x4 :: x5 :: x6 :: x7 :: y8 :: y9 :: y10 :: y11 :: y12 :: y13 :: x14 :: x15 :: x16 :: x17 :: x18 :: x19 :: x20 :: x21 :: x22 :: x23 :: x24 :: x25 :: x26 :: x27 :: x28 :: x29 :: x30 :: x31 :: x32 :: x33 :: x34 :: x35 :: x36 :: x37 :: x38 :: x39 :: x40 :: x41 :: x42 :: x43 :: x44 :: x45 :: x46 :: x47 :: x48 :: x49 :: x50 :: x51 :: x52 :: x53 :: x54 :: x55 :: x56 :: x57 :: x58 :: x59 :: x60 :: x61 :: x62 :: x63 :: x64 :: x65 :: x66 :: x67 :: x68 :: x69 :: x70 :: x71 :: x72 :: x73 :: x74 :: x75 :: x76 :: x77 :: x78 :: x79 :: x80 :: x81 :: x82 :: x83 :: x84 :: x85 :: x86 :: x87 :: x88 :: x89 :: x90 :: x91 :: x92 :: x93 :: x94 :: x95 :: x96 :: x97 :: x98 :: x99 :: x100 :: x101 :: x102 :: x103 :: x104 :: x105 :: x106 :: x107 :: x108 :: x109 :: x110 :: x111 :: x112 :: x113 :: x114 :: x115 :: x116 :: x117 :: x118 :: x119 :: x120 :: x121 :: (.bool (!eo)) :: y123 :: y124 :: y125 :: y126 :: y127 :: y128 :: y129 :: y130 :: y131 :: y132 :: y133 :: y134 :: y135 :: y136 :: y137 :: y138 :: y139 :: y140 :: y141 :: y142 :: y143 :: y144 :: y145 :: y146 :: y147 :: y148 :: y149 :: y150 :: y151 :: y152 :: y153 :: y154 :: y155 :: y156 :: y157 :: y158 :: y159 :: y160 :: y161 :: y162 :: y163 :: y164 :: y165 :: y166 :: y167 :: y168 :: y169 :: y170 :: y171 :: y172 :: y173 :: y174 :: y175 :: y176 :: y177 :: y178 :: y179 :: y180 :: y181 :: y182 :: y183 :: y184 :: y185 :: y186 :: y187 :: y188 :: y189 :: y190 :: y191 :: y192 :: y193 :: y194 :: y195 :: y196 :: y197 :: y198 :: y199 :: y200 :: y201 :: y202 :: y203 :: y204 :: y205 :: y206 :: y207 :: y208 :: y209 :: y210 :: y211 :: y212 :: y213 :: y214 :: y215 :: y216 :: y217 :: y218 :: y219 :: y220 :: y221 :: y222 :: y223 :: y224 :: y225 :: y226 :: y227 :: y228 :: y229 :: y230 :: y231 :: y232 :: y233 :: y234 :: y235 :: y236 :: y237 :: y238 :: y239 :: y240 :: y241 :: y242 :: y243 :: y244 :: y245 :: y246 :: y247 :: y248 :: y249 :: y250 :: y251 :: y252 :: y253 :: y254 :: y255 :: y256 :: y257 :: y258 :: x259 :: x260 :: x261 :: x262 :: x263 :: x264 :: x265 :: x266 :: x267 :: x268 :: x269 :: x270 :: x271 :: x272 :: x273 :: x274 :: x275 :: x276 :: x277 :: x278 :: x279 :: x280 :: x281 :: x282 :: x283 :: x284 :: x285 :: []), []⟩ wy)) :
    Code.wp Tryz.prog (cT 122) (Exit.then K Q) ⟨List.toArray ((.pointer (some ⟨g, 0, none⟩)) :: x1 :: x2 :: (.pointer (some ⟨W.heap.size, 0, none⟩)) :: x4 :: x5 :: x6 :: x7 :: x8 :: x9 :: x10 :: x11 :: x12 :: x13 :: x14 :: x15 :: x16 :: x17 :: x18 :: x19 :: x20 :: x21 :: x22 :: x23 :: x24 :: x25 :: x26 :: x27 :: x28 :: x29 :: x30 :: x31 :: x32 :: x33 :: x34 :: x35 :: x36 :: x37 :: x38 :: x39 :: x40 :: x41 :: x42 :: x43 :: x44 :: x45 :: x46 :: x47 :: x48 :: x49 :: x50 :: x51 :: x52 :: x53 :: x54 :: x55 :: x56 :: x57 :: x58 :: x59 :: x60 :: x61 :: x62 :: x63 :: x64 :: x65 :: x66 :: x67 :: x68 :: x69 :: x70 :: x71 :: x72 :: x73 :: x74 :: x75 :: x76 :: x77 :: x78 :: x79 :: x80 :: x81 :: x82 :: x83 :: x84 :: x85 :: x86 :: x87 :: x88 :: x89 :: x90 :: x91 :: x92 :: x93 :: x94 :: x95 :: x96 :: x97 :: x98 :: x99 :: x100 :: x101 :: x102 :: x103 :: x104 :: x105 :: x106 :: x107 :: x108 :: x109 :: x110 :: x111 :: x112 :: x113 :: x114 :: x115 :: x116 :: x117 :: x118 :: x119 :: x120 :: x121 :: (.bool (!eo)) :: x123 :: x124 :: x125 :: x126 :: x127 :: x128 :: x129 :: x130 :: x131 :: x132 :: x133 :: x134 :: x135 :: x136 :: x137 :: x138 :: x139 :: x140 :: x141 :: x142 :: x143 :: x144 :: x145 :: x146 :: x147 :: x148 :: x149 :: x150 :: x151 :: x152 :: x153 :: x154 :: x155 :: x156 :: x157 :: x158 :: x159 :: x160 :: x161 :: x162 :: x163 :: x164 :: x165 :: x166 :: x167 :: x168 :: x169 :: x170 :: x171 :: x172 :: x173 :: x174 :: x175 :: x176 :: x177 :: x178 :: x179 :: x180 :: x181 :: x182 :: x183 :: x184 :: x185 :: x186 :: x187 :: x188 :: x189 :: x190 :: x191 :: x192 :: x193 :: x194 :: x195 :: x196 :: x197 :: x198 :: x199 :: x200 :: x201 :: x202 :: x203 :: x204 :: x205 :: x206 :: x207 :: x208 :: x209 :: x210 :: x211 :: x212 :: x213 :: x214 :: x215 :: x216 :: x217 :: x218 :: x219 :: x220 :: x221 :: x222 :: x223 :: x224 :: x225 :: x226 :: x227 :: x228 :: x229 :: x230 :: x231 :: x232 :: x233 :: x234 :: x235 :: x236 :: x237 :: x238 :: x239 :: x240 :: x241 :: x242 :: x243 :: x244 :: x245 :: x246 :: x247 :: x248 :: x249 :: x250 :: x251 :: x252 :: x253 :: x254 :: x255 :: x256 :: x257 :: x258 :: x259 :: x260 :: x261 :: x262 :: x263 :: x264 :: x265 :: x266 :: x267 :: x268 :: x269 :: x270 :: x271 :: x272 :: x273 :: x274 :: x275 :: x276 :: x277 :: x278 :: x279 :: x280 :: x281 :: x282 :: x283 :: x284 :: x285 :: []), []⟩ W3 := by
  conv => arg 2; whnf
  have hl3 := HL3.out
  have hs1 := HV.out.opq
  have hs3 := HV.out.host
  obtain ⟨u, k1, k2⟩ := HU.out.keep B3.out.below
  have K1 := Lib.hid k1
  have K2 := Lib.hid k2
  clear k1 k2
  cases eo
  · have c1 : W3.cell? ⟨g, 1, none⟩ = some (.string v.opq) := cell_at K1.out rfl
    go_wp2_with fail
    refine (B3.out.str (by omega) v.opq (Nat.le_trans hs1 (by decide))).mono ?_
    rintro e w4 ⟨rfl, b4⟩
    have B4 := Lib.hid b4
    clear b4
    go_wp2_with fail
    exact HK.out _ _ _ _ _ _ _ _ _ _ _ _ _ _ _ _ _ _ _ _ _ _ _ _ _ _ _ _ _ _ _ _ _ _ _ _ _ _ _ _ _ _ _ _ _ _ _ _ _ _ _ _ _ _ _ _ _ _ _ _ _ _ _ _ _ _ _ _ _ _ _ _ _ _ _ _ _ _ _ _ _ _ _ _ _ _ _ _ _ _ _ _ _ _ _ _ _ _ _ _ _ _ _ _ _ _ _ _ _ _ _ _ _ _ _ _ _ _ _ _ _ _ _ _ _ _ _ _ _ _ _ _ _ _ _ _ _ _ _ _ _ _ _ (by simpa [tBody] using B4.out) (Lib.hid (by simp [tBody, U.len_L]; omega))
  · have HQL : Hid (U.escPath v = L q) := Lib.hid (by rw [← HQ.out]; rfl)
    have c0 : W3.cell? ⟨g, 0, none⟩ = some (.string v.scheme) := cell_at K1.out rfl
    have c2 : W3.cell? ⟨g, 2, none⟩ = some u := cell_at K1.out rfl
    have c3 : W3.cell? ⟨g, 3, none⟩ = some (.string v.host) := cell_at K1.out rfl
    have hw := K2.out.ways
    rw [HHU.out] at hw
    have HW := Lib.hid hw
    clear hw
    obtain ⟨c6, HC6⟩ : ∃ b, Hid (((!es || !eh || hu) && (!om || !eh || hu)) = b) := ⟨_, rfl⟩
    obtain ⟨c7, HC7⟩ : ∃ b, Hid ((!eh || !ep || hu) = b) := ⟨_, rfl⟩
    obtain ⟨c18, HC18⟩ : ∃ b, Hid ((!es || !eh || hu) = b) := ⟨_, rfl⟩
    obtain ⟨c19, HC19⟩ : ∃ b, Hid ((om && eh && !hu) = b) := ⟨_, rfl⟩
    have HFR : Hid (U.front v = tFront v es c6 c7) := Lib.hid (front_is v es eh ep c6 c7 HES.out HEH.out HEPA.out (by rw [HHU.out, HOM.out]; exact HC6.out) (by rw [HHU.out]; exact HC7.out))
    have HC6' : Hid (c6 = (c18 && !c19)) := by
      rw [← HC6.out, ← HC18.out, ← HC19.out]
      refine Lib.hid ?_
      cases om <;> cases eh <;> cases hu <;> cases es <;> rfl
    clear HC6
    go_upto_region 18 with fail
    go_cut [146] from 128 to 146 (fun t wx => t = .bool c18 ∧ wx = W3)
    case first =>
      as_aux_lemma =>
      rcases em_ways _ _ HES with ⟨rfl, e1⟩ | ⟨rfl, e1⟩
      · rcases em_ways _ _ HEH with ⟨rfl, e2⟩ | ⟨rfl, e2⟩
        · rcases HW.out with ⟨rfl, rfl⟩ | ⟨rfl, k, rfl, hk⟩
          all_goals
            go_wp2_with fail
            go_meet
            exact ⟨by rw [← HC18.out]; rfl, rfl⟩
        · go_wp2_with fail
          go_meet
          exact ⟨by rw [← HC18.out]; rfl, rfl⟩
      · go_wp2_with fail
        go_meet
        exact ⟨by rw [← HC18.out]; rfl, rfl⟩
    obtain ⟨rfl, e⟩ := hcut
    obtain rfl := e.symm
    clear c0 c2 c3 HW K1 K2
    go_upto_if 146 with fail
    refine st_146 W W3 g v om c18 c19 c6 es eh ep hu c7 hs3 HU HT HV HL3 B3 HEH HEPA HHU HC7 HOM HC19 HC6' _ _ ?_
    refine Lib.hid ?_
    intro _ _ _ _ _ _ _ _ _ _ _ _ _ _ _ _ _ _ _ _ _ _ _ _ _ _ _ _ _ _ _ _ _ _ _ _ _ _ _ _ _ _ _ _ _ _ _ _ _ _ _ _ _ _ _ _ _ _ _ w4 b4
    have hl4 : (U.front v).length ≤ 50000 := by
      have h1 := U.front_len v
      have h2 := HV.out.user
      have h3 := HV.out.pass
      have h4 := HV.out.scheme
      simp only [U.len_L] at h1
      omega
    have hq : q.size ≤ 12000 := by
      have h1 := U.escPath_len v
      rw [HQL.out, U.len_L, U.len_L] at h1
      have h2 := HV.out.path
      omega
    rw [← HFR.out] at b4
    have B4 := Lib.hid b4
    clear b4 B3 HFR HC6' HC7 HC18 HC19
    go_wp2_with fail
    refine (i_escPath w4 g v (HV.out.mono (by decide)) (HT.out.below B4.out.below) (HU.out.keep B4.out.below)).mono ?_
    rintro e w5 ⟨rfl, b5⟩
    rw [HQ.out]
    have B5 := Lib.hid (B4.out.keep b5)
    obtain ⟨u5, k5, m5⟩ := HU.out.keep B5.out.below
    clear b5 B4
    have c10 : w5.cell? ⟨g, 10, none⟩ = some (.bool v.omitHost) := cell_at k5 rfl
    have c3 : w5.cell? ⟨g, 3, none⟩ = some (.string v.host) := cell_at k5 rfl
    have c2 : w5.cell? ⟨g, 2, none⟩ = some u5 := cell_at k5 rfl
    rw [HOM.out] at c10
    have hw := m5.ways
    rw [HHU.out] at hw
    have HW5 := Lib.hid hw
    clear hw m5 k5
    obtain ⟨b2, HS2⟩ : ∃ b, Hid (decide ((L q).take (⟨#[47, 47]⟩ : ByteArray).size = L ⟨#[47, 47]⟩) = b) := ⟨_, rfl⟩
    obtain ⟨c22, HC22⟩ : ∃ b, Hid ((om && eh && !hu && b2) = b) := ⟨_, rfl⟩
    have HBT : Hid ((U.bare v = true ∧ (L q).take 2 = [47, 47]) ↔ c22 = true) := by
      rw [← HC22.out, ← HS2.out, ← HOM.out, ← HEH.out, ← HHU.out]
      refine Lib.hid ?_
      simp only [decide_eq_true_eq, U.bare, em, Bool.and_eq_true, List.isEmpty_iff]
      exact Iff.rfl
    go_upto_region 30 with fail
    go_cut [227] from 206 to 227 (fun t wx => t = .bool c22 ∧ wx = w5)
    case first =>
      as_aux_lemma =>
      cases om
      · go_wp2_with fail
        go_meet
        exact ⟨by rw [← HC22.out]; rfl, rfl⟩
      · rcases em_ways _ _ HEH with ⟨rfl, e2⟩ | ⟨rfl, e2⟩
        · rcases HW5.out with ⟨rfl, rfl⟩ | ⟨rfl, k, rfl, hk⟩
          · have : c22 = b2 := by rw [← HC22.out]; rfl
            subst this
            go_wp2_with fail
            refine (i_prefix q _ _ _ HS2).mono ?_
            rintro e w6 ⟨rfl, rfl⟩
            go_wp2_with fail
            go_meet
            exact ⟨rfl, rfl⟩
          · go_wp2_with fail
            go_meet
            exact ⟨by rw [← HC22.out]; rfl, rfl⟩
        · go_wp2_with fail
          go_meet
          exact ⟨by rw [← HC22.out]; rfl, rfl⟩
    obtain ⟨rfl, e⟩ := hcut
    obtain rfl := e.symm
    clear c10 c3 c2 HW5 HC22 HS2
    go_upto_if 227 with fail
    refine st_227 W w5 g v q c22 hl4 hq B5 HBT _ _ ?_
    refine Lib.hid ?_
    intro _ _ _ q' G w7 b7 hG hq' HFIN
    have B7 := Lib.hid b7
    obtain ⟨u7, k7, m7⟩ := HU.out.keep b7.below
    have c3 : w7.cell? ⟨g, 3, none⟩ = some (.string v.host) := cell_at k7 rfl
    clear b7 k7 m7 B5 HBT
    obtain ⟨c16, HC16⟩ : ∃ b, Hid (decide (L q' ≠ [] ∧ (L q').head? ≠ some 47 ∧ L v.host ≠ []) = b) := ⟨_, rfl⟩
    go_upto_region 33 with fail
    go_cut [244] from 231 to 244 (fun t wx => t = .bool c16 ∧ wx = w7)
    case first =>
      as_aux_lemma =>
      have e47 : ((47 : UInt8).toNat : Int) = 47 := rfl
      rcases head_ways q' 47 with ⟨h1, h2⟩ | ⟨h1, hz, ⟨h2, h3⟩ | ⟨h2, h3⟩⟩
      · have hl : L q' = [] := by rw [← U.toList_L]; exact h1
        have : c16 = false := by rw [← HC16.out]; simp [hl]
        subst this
        clear h2 hl
        go_wp2_with fail
        go_meet
        exact ⟨rfl, rfl⟩
      · have hl : L q' ≠ [] := by rw [← U.toList_L]; simpa using h1
        rw [e47] at h2
        rcases empty_ways v.host with ⟨e1, e2⟩ | ⟨e1, e2⟩
        · have : c16 = false := by rw [← HC16.out]; simp [e1]
          subst this
          clear h3 hl e1
          go_wp2_with fail
          go_meet
          exact ⟨rfl, rfl⟩
        · have : c16 = true := by rw [← HC16.out]; exact decide_eq_true ⟨hl, h3, e1⟩
          subst this
          clear h3 hl e1
          go_wp2_with fail
          go_meet
          exact ⟨rfl, rfl⟩
      · have : c16 = false := by rw [← HC16.out]; simp [h3]
        subst this
        clear h3
        rw [e47] at h2
        go_wp2_with fail
        go_meet
        exact ⟨rfl, rfl⟩
    obtain ⟨rfl, e⟩ := hcut
    obtain rfl := e.symm
    clear c3
    go_upto_if 244 with fail
    refine st_244 W w7 g v q' G c16 hG B7 HC16 _ _ ?_
    refine Lib.hid ?_
    intro _ w8 b8 HL8
    obtain ⟨F, HF⟩ : ∃ F, Hid (tSlash v G q' = F) := ⟨_, Lib.hid rfl⟩
    rw [HF.out] at b8 HL8
    have HFIN2 : Hid (tBody v es true q = tDot F q' ++ L q') := by
      rw [tBody, if_pos rfl, HFIN.out, HF.out]
      exact Lib.hid rfl
    have B8 := Lib.hid b8
    have hl8 := HL8.out
    clear b8 B7 HC16 HFIN HF
    obtain ⟨e3, HE3⟩ : ∃ b, Hid (decide (F = []) = b) := ⟨_, rfl⟩
    go_upto_region 35 with fail
    go_cut [247] from 246 to 247 (fun t wx => t = .bool e3 ∧ wx = w8)
    case first =>
      as_aux_lemma =>
      go_wp2_with fail
      refine B8.out.len.mono ?_
      rintro e w9 ⟨rfl, rfl⟩
      cases e3
      · have hz : ((F.length : Int) == 0) = false := by
          have := of_decide_eq_false HE3.out
          have h0 : F.length ≠ 0 := fun h => this (List.length_eq_zero_iff.1 h)
          simpa using h0
        go_wp2_with fail
        go_meet
        exact ⟨by simp, rfl⟩
      · have hz : F = [] := of_decide_eq_true HE3.out
        subst hz
        go_wp2_with fail
        go_meet
        exact ⟨rfl, rfl⟩
    obtain ⟨rfl, e⟩ := hcut
    obtain rfl := e.symm
    go_upto_if 247 with fail
    refine st_247 W w8 g v q' F e3 hq' B8 HL8 HE3 _ _ ?_
    refine Lib.hid ?_
    intro _ _ _ _ _ _ _ _ _ _ _ _ w9 b9 HL9
    have B9 := Lib.hid b9
    have hl9 := HL9.out
    clear b9 B8
    go_wp2_with fail
    refine (B9.out.str (by omega) q' (Nat.le_trans hq' (by decide))).mono ?_
    rintro e wa ⟨rfl, ba⟩
    have BA := Lib.hid ba
    clear ba
    go_wp2_with fail
    exact HK.out _ _ _ _ _ _ _ _ _ _ _ _ _ _ _ _ _ _ _ _ _ _ _ _ _ _ _ _ _ _ _ _ _ _ _ _ _ _ _ _ _ _ _ _ _ _ _ _ _ _ _ _ _ _ _ _ _ _ _ _ _ _ _ _ _ _ _ _ _ _ _ _ _ _ _ _ _ _ _ _ _ _ _ _ _ _ _ _ _ _ _ _ _ _ _ _ _ _ _ _ _ _ _ _ _ _ _ _ _ _ _ _ _ _ _ _ _ _ _ _ _ _ _ _ _ _ _ _ _ _ _ _ _ _ _ _ _ _ _ _ _ _ _ (by rw [HFIN2.out]; exact BA.out) (by rw [HFIN2.out]; exact Lib.hid (by rw [List.length_append, U.len_L]; omega))
end Go.Proofs.YtphkohpphdcjhaaGreatDoor
