import Derived.Test.Qxb6627205aAt
namespace Go.Proofs.Qxb6627205a
open Go.RowKit

attribute [local go_sem ↓] Go.wp_at_zero Go.wp_at_succ
set_option maxRecDepth 100000 in
set_option maxHeartbeats 8000000 in
theorem strs5 (W : World) (a' : Option Addr) (vs : List ByteArray) (c' : Nat) (m : ByteArray) (z : Nat) (hz : z ≤ 1048576) (HS : Hid (Ss W a' vs)) (hl : vs.length ≤ 2 ^ 63 - 1) (hm : m.size ≤ 2 ^ 63 - 1) {x0 x1 x4 x5 x6 x7 x8 x10 x11 x12 x13 x14 x15 x16 x17 x18 x19 x20 x21 x22 x23 x24 x25 x26 x27 x28 x29 x30 x31 x32 x33 x34 x35 x36 x37 x38 x39 x40 x41 x42 x43 x44 x45 x46 x47 x48 x49 x50 x51 x52 x53 x54 x55 x56 x57 x58 x59 x60 x61 x62 x63 x64 x65 x66 x67 x68 x69 x70 x71 x72 x73 x74 x75 x76 x77 x78 x79 x80 x81 x82 x83 x84 x85 x86 x87 x88 x89 x90 x91 x92 x93 x94 x95 x96 x97 x98 x99 x100 x101 x102 x103 x104 x105 x106 x107 x108 x109 x110 x111 x112 x113 x114 x115 x116 x117 x118 x119 x120 x121 x122 x123 x124 x125 x126 x127 x128 x129 x130 x131 x132 x133 x134 x135 x136 x137 x138 x139 x140 x141 x142 x143 x144 x145 x146 x147 x148 x149 x150 x151 x152 x153 x154 x155 x156 x157 x158 x159 x160 x161 x162 x163 x164 x165 x166 x167 x168 x169 x170 x171 x172 x173 x174 x175 x176 x177 x178 x179 x180 x181 x182 x183 x184 x185 x186 x187 x188 x189 x190 x191 x192 x193 x194 x195 x196 x197 x198 x199 x200 x201 x202 x203 x204 x205 x206 x207 x208 x209 x210 x211 x212 x213 x214 x215 x216 x217 x218 x219 x220 x221 x222 x223 x224 x225 x226 x227 x228 x229 x230 x231 x232 x233 x234 x235 x236 x237 x238 x239 x240 x241 x242 x243 x244 x245 x246 x247 x248 x249 x250 x251 x252 x253 x254 x255 x256 x257 x258 x259 x260 x261 x262 x263 x264 x265 x266 x267 x268 x269 x270 x271 x272 x273 x274 x275 x276 x277 x278 x279 x280 x281 x282 x283 x284 x285 x286 x287 x288 x289 x290 x291 x292 x293 x294 x295 x296 x297 x298 x299 x300 x301 x302 x303 x304 x305 x306 x307 x308 x309 x310 x311 x312 x313 x314 x315 x316 x317 x318 x319 x320 x321 x322 x323 x324 x325 x326 x327 : Value} :
    Code.wp Try.prog (dropS 10 (codeOf Try.f5)) (bodyPost Try.prog Try.f5 fun e w' => IsB e ∧ w' = W) { tmps := (x0 :: x1 :: .slice a' vs.length c' :: .string m :: x4 :: x5 :: x6 :: x7 :: x8 :: .int .i64 z :: x10 :: x11 :: x12 :: x13 :: x14 :: x15 :: x16 :: x17 :: x18 :: x19 :: x20 :: x21 :: x22 :: x23 :: x24 :: x25 :: x26 :: x27 :: x28 :: x29 :: x30 :: x31 :: x32 :: x33 :: x34 :: x35 :: x36 :: x37 :: x38 :: x39 :: x40 :: x41 :: x42 :: x43 :: x44 :: x45 :: x46 :: x47 :: x48 :: x49 :: x50 :: x51 :: x52 :: x53 :: x54 :: x55 :: x56 :: x57 :: x58 :: x59 :: x60 :: x61 :: x62 :: x63 :: x64 :: x65 :: x66 :: x67 :: x68 :: x69 :: x70 :: x71 :: x72 :: x73 :: x74 :: x75 :: x76 :: x77 :: x78 :: x79 :: x80 :: x81 :: x82 :: x83 :: x84 :: x85 :: x86 :: x87 :: x88 :: x89 :: x90 :: x91 :: x92 :: x93 :: x94 :: x95 :: x96 :: x97 :: x98 :: x99 :: x100 :: x101 :: x102 :: x103 :: x104 :: x105 :: x106 :: x107 :: x108 :: x109 :: x110 :: x111 :: x112 :: x113 :: x114 :: x115 :: x116 :: x117 :: x118 :: x119 :: x120 :: x121 :: x122 :: x123 :: x124 :: x125 :: x126 :: x127 :: x128 :: x129 :: x130 :: x131 :: x132 :: x133 :: x134 :: x135 :: x136 :: x137 :: x138 :: x139 :: x140 :: x141 :: x142 :: x143 :: x144 :: x145 :: x146 :: x147 :: x148 :: x149 :: x150 :: x151 :: x152 :: x153 :: x154 :: x155 :: x156 :: x157 :: x158 :: x159 :: x160 :: x161 :: x162 :: x163 :: x164 :: x165 :: x166 :: x167 :: x168 :: x169 :: x170 :: x171 :: x172 :: x173 :: x174 :: x175 :: x176 :: x177 :: x178 :: x179 :: x180 :: x181 :: x182 :: x183 :: x184 :: x185 :: x186 :: x187 :: x188 :: x189 :: x190 :: x191 :: x192 :: x193 :: x194 :: x195 :: x196 :: x197 :: x198 :: x199 :: x200 :: x201 :: x202 :: x203 :: x204 :: x205 :: x206 :: x207 :: x208 :: x209 :: x210 :: x211 :: x212 :: x213 :: x214 :: x215 :: x216 :: x217 :: x218 :: x219 :: x220 :: x221 :: x222 :: x223 :: x224 :: x225 :: x226 :: x227 :: x228 :: x229 :: x230 :: x231 :: x232 :: x233 :: x234 :: x235 :: x236 :: x237 :: x238 :: x239 :: x240 :: x241 :: x242 :: x243 :: x244 :: x245 :: x246 :: x247 :: x248 :: x249 :: x250 :: x251 :: x252 :: x253 :: x254 :: x255 :: x256 :: x257 :: x258 :: x259 :: x260 :: x261 :: x262 :: x263 :: x264 :: x265 :: x266 :: x267 :: x268 :: x269 :: x270 :: x271 :: x272 :: x273 :: x274 :: x275 :: x276 :: x277 :: x278 :: x279 :: x280 :: x281 :: x282 :: x283 :: x284 :: x285 :: x286 :: x287 :: x288 :: x289 :: x290 :: x291 :: x292 :: x293 :: x294 :: x295 :: x296 :: x297 :: x298 :: x299 :: x300 :: x301 :: x302 :: x303 :: x304 :: x305 :: x306 :: x307 :: x308 :: x309 :: x310 :: x311 :: x312 :: x313 :: x314 :: x315 :: x316 :: x317 :: x318 :: x319 :: x320 :: x321 :: x322 :: x323 :: x324 :: x325 :: x326 :: x327 :: []).toArray, defers := [] } W := by
  refine wp_drop 10 rfl ?_
  simp only [dropS, tl13]
  go_upto_if 291 with fail
  by_cases hT1 : 1048576 < vs.length
  · have hT1i : (1048576 : Int) < (vs.length : Int) := by omega
    go_wp2
    go_ret
    exact ⟨⟨false, rfl⟩, rfl⟩
  have hT1i : (vs.length : Int) ≤ (1048576 : Int) := by omega
  go_upto_if 297 with fail
  by_cases hT2 : 1048576 < z + vs.length
  · have hT2i : (1048576 : Int) < (z : Int) + (vs.length : Int) := by omega
    go_wp2
    go_ret
    exact ⟨⟨false, rfl⟩, rfl⟩
  have hT2i : (z : Int) + (vs.length : Int) ≤ (1048576 : Int) := by omega
  go_wp2
  go_loopg [9, 16] (vs.length + 1) (fun gk zv i wi => ∃ k q : Nat, k ≤ vs.length ∧ gk = vs.length + 1 - k ∧ i = .int .i64 k ∧ zv = .int .i64 q ∧ q ≤ 1048576 ∧ wi = W)
  case atStart => exact ⟨0, z + vs.length, Nat.zero_le _, rfl, rfl, by go_num, by omega, rfl⟩
  case round =>
    obtain ⟨k, q, hk, rfl, rfl, rfl, hq, rfl⟩ := hrel
    by_cases hkl : k < vs.length
    · obtain ⟨b, o, s, hA, hc, hs⟩ : ∃ b o s, a' = some ⟨b, o, none⟩ ∧ wr.cell? ⟨b, o + k, none⟩ = some (.string s) ∧ s.size ≤ maxLen := at_str HS.out hkl
      subst hA
      have hkl' : (k : Int) < (vs.length : Int) := by omega
      unfold maxLen at hs
      go_upto_if 309 with fail
      by_cases hT3 : 1048576 < s.size
      · have hT3i : (1048576 : Int) < (s.size : Int) := by omega
        go_wp2
        go_ret
        exact ⟨⟨false, rfl⟩, rfl⟩
      have hT3i : (s.size : Int) ≤ (1048576 : Int) := by omega
      go_upto_if 318 with fail
      by_cases hT4 : 1048576 < q + s.size
      · have hT4i : (1048576 : Int) < (q : Int) + (s.size : Int) := by omega
        go_wp2
        go_ret
        exact ⟨⟨false, rfl⟩, rfl⟩
      have hT4i : (q : Int) + (s.size : Int) ≤ (1048576 : Int) := by omega
      go_wp2
      go_roundg (vs.length + 1 - (k + 1))
      case rel => exact ⟨k + 1, q + s.size, by omega, rfl, by go_num, by go_num, by omega, rfl⟩
      case measure => omega
    · have hkl' : (vs.length : Int) ≤ (k : Int) := by omega
      go_upto_if 321 with fail
      by_cases hT5 : 1048576 < m.size
      · have hT5i : (1048576 : Int) < (m.size : Int) := by omega
        go_wp2
        go_ret
        exact ⟨⟨false, rfl⟩, rfl⟩
      have hT5i : (m.size : Int) ≤ (1048576 : Int) := by omega
      go_upto_if 327 with fail
      by_cases hT6 : 1048576 < q + m.size
      · have hT6i : (1048576 : Int) < (q : Int) + (m.size : Int) := by omega
        go_wp2
        go_ret
        exact ⟨⟨false, rfl⟩, rfl⟩
      have hT6i : (q : Int) + (m.size : Int) ≤ (1048576 : Int) := by omega
      go_wp2
      go_ret
      exact ⟨⟨true, rfl⟩, rfl⟩

set_option maxRecDepth 100000 in
set_option maxHeartbeats 8000000 in
theorem allow5 (W : World) (a2 : Option Addr) (allow : List Rule) (c2' : Nat) (a' : Option Addr) (vs : List ByteArray) (c' : Nat) (m : ByteArray) (z : Nat) (hz : z ≤ 1048576) (HR2 : Hid (Rl W a2 allow)) (ha : allow.length ≤ 2 ^ 63 - 1) (HS : Hid (Ss W a' vs)) (hl : vs.length ≤ 2 ^ 63 - 1) (hm : m.size ≤ 2 ^ 63 - 1) {x0 x4 x5 x6 x7 x8 x10 x11 x12 x13 x14 x15 x16 x17 x18 x19 x20 x21 x22 x23 x24 x25 x26 x27 x28 x29 x30 x31 x32 x33 x34 x35 x36 x37 x38 x39 x40 x41 x42 x43 x44 x45 x46 x47 x48 x49 x50 x51 x52 x53 x54 x55 x56 x57 x58 x59 x60 x61 x62 x63 x64 x65 x66 x67 x68 x69 x70 x71 x72 x73 x74 x75 x76 x77 x78 x79 x80 x81 x82 x83 x84 x85 x86 x87 x88 x89 x90 x91 x92 x93 x94 x95 x96 x97 x98 x99 x100 x101 x102 x103 x104 x105 x106 x107 x108 x109 x110 x111 x112 x113 x114 x115 x116 x117 x118 x119 x120 x121 x122 x123 x124 x125 x126 x127 x128 x129 x130 x131 x132 x133 x134 x135 x136 x137 x138 x139 x140 x141 x142 x143 x144 x145 x146 x147 x148 x149 x150 x151 x152 x153 x154 x155 x156 x157 x158 x159 x160 x161 x162 x163 x164 x165 x166 x167 x168 x169 x170 x171 x172 x173 x174 x175 x176 x177 x178 x179 x180 x181 x182 x183 x184 x185 x186 x187 x188 x189 x190 x191 x192 x193 x194 x195 x196 x197 x198 x199 x200 x201 x202 x203 x204 x205 x206 x207 x208 x209 x210 x211 x212 x213 x214 x215 x216 x217 x218 x219 x220 x221 x222 x223 x224 x225 x226 x227 x228 x229 x230 x231 x232 x233 x234 x235 x236 x237 x238 x239 x240 x241 x242 x243 x244 x245 x246 x247 x248 x249 x250 x251 x252 x253 x254 x255 x256 x257 x258 x259 x260 x261 x262 x263 x264 x265 x266 x267 x268 x269 x270 x271 x272 x273 x274 x275 x276 x277 x278 x279 x280 x281 x282 x283 x284 x285 x286 x287 x288 x289 x290 x291 x292 x293 x294 x295 x296 x297 x298 x299 x300 x301 x302 x303 x304 x305 x306 x307 x308 x309 x310 x311 x312 x313 x314 x315 x316 x317 x318 x319 x320 x321 x322 x323 x324 x325 x326 x327 : Value} :
    Code.wp Try.prog (dropS 6 (codeOf Try.f5)) (bodyPost Try.prog Try.f5 fun e w' => IsB e ∧ w' = W) { tmps := (x0 :: .slice a2 allow.length c2' :: .slice a' vs.length c' :: .string m :: x4 :: x5 :: x6 :: x7 :: x8 :: .int .i64 z :: x10 :: x11 :: x12 :: x13 :: x14 :: x15 :: x16 :: x17 :: x18 :: x19 :: x20 :: x21 :: x22 :: x23 :: x24 :: x25 :: x26 :: x27 :: x28 :: x29 :: x30 :: x31 :: x32 :: x33 :: x34 :: x35 :: x36 :: x37 :: x38 :: x39 :: x40 :: x41 :: x42 :: x43 :: x44 :: x45 :: x46 :: x47 :: x48 :: x49 :: x50 :: x51 :: x52 :: x53 :: x54 :: x55 :: x56 :: x57 :: x58 :: x59 :: x60 :: x61 :: x62 :: x63 :: x64 :: x65 :: x66 :: x67 :: x68 :: x69 :: x70 :: x71 :: x72 :: x73 :: x74 :: x75 :: x76 :: x77 :: x78 :: x79 :: x80 :: x81 :: x82 :: x83 :: x84 :: x85 :: x86 :: x87 :: x88 :: x89 :: x90 :: x91 :: x92 :: x93 :: x94 :: x95 :: x96 :: x97 :: x98 :: x99 :: x100 :: x101 :: x102 :: x103 :: x104 :: x105 :: x106 :: x107 :: x108 :: x109 :: x110 :: x111 :: x112 :: x113 :: x114 :: x115 :: x116 :: x117 :: x118 :: x119 :: x120 :: x121 :: x122 :: x123 :: x124 :: x125 :: x126 :: x127 :: x128 :: x129 :: x130 :: x131 :: x132 :: x133 :: x134 :: x135 :: x136 :: x137 :: x138 :: x139 :: x140 :: x141 :: x142 :: x143 :: x144 :: x145 :: x146 :: x147 :: x148 :: x149 :: x150 :: x151 :: x152 :: x153 :: x154 :: x155 :: x156 :: x157 :: x158 :: x159 :: x160 :: x161 :: x162 :: x163 :: x164 :: x165 :: x166 :: x167 :: x168 :: x169 :: x170 :: x171 :: x172 :: x173 :: x174 :: x175 :: x176 :: x177 :: x178 :: x179 :: x180 :: x181 :: x182 :: x183 :: x184 :: x185 :: x186 :: x187 :: x188 :: x189 :: x190 :: x191 :: x192 :: x193 :: x194 :: x195 :: x196 :: x197 :: x198 :: x199 :: x200 :: x201 :: x202 :: x203 :: x204 :: x205 :: x206 :: x207 :: x208 :: x209 :: x210 :: x211 :: x212 :: x213 :: x214 :: x215 :: x216 :: x217 :: x218 :: x219 :: x220 :: x221 :: x222 :: x223 :: x224 :: x225 :: x226 :: x227 :: x228 :: x229 :: x230 :: x231 :: x232 :: x233 :: x234 :: x235 :: x236 :: x237 :: x238 :: x239 :: x240 :: x241 :: x242 :: x243 :: x244 :: x245 :: x246 :: x247 :: x248 :: x249 :: x250 :: x251 :: x252 :: x253 :: x254 :: x255 :: x256 :: x257 :: x258 :: x259 :: x260 :: x261 :: x262 :: x263 :: x264 :: x265 :: x266 :: x267 :: x268 :: x269 :: x270 :: x271 :: x272 :: x273 :: x274 :: x275 :: x276 :: x277 :: x278 :: x279 :: x280 :: x281 :: x282 :: x283 :: x284 :: x285 :: x286 :: x287 :: x288 :: x289 :: x290 :: x291 :: x292 :: x293 :: x294 :: x295 :: x296 :: x297 :: x298 :: x299 :: x300 :: x301 :: x302 :: x303 :: x304 :: x305 :: x306 :: x307 :: x308 :: x309 :: x310 :: x311 :: x312 :: x313 :: x314 :: x315 :: x316 :: x317 :: x318 :: x319 :: x320 :: x321 :: x322 :: x323 :: x324 :: x325 :: x326 :: x327 :: []).toArray, defers := [] } W := by
  refine wp_drop 6 rfl ?_
  simp only [dropS, tl13]
  go_upto_if 155 with fail
  by_cases hT7 : 1048576 < allow.length
  · have hT7i : (1048576 : Int) < (allow.length : Int) := by omega
    go_wp2
    go_ret
    exact ⟨⟨false, rfl⟩, rfl⟩
  have hT7i : (allow.length : Int) ≤ (1048576 : Int) := by omega
  go_upto_if 161 with fail
  by_cases hT8 : 1048576 < z + allow.length
  · have hT8i : (1048576 : Int) < (z : Int) + (allow.length : Int) := by omega
    go_wp2
    go_ret
    exact ⟨⟨false, rfl⟩, rfl⟩
  have hT8i : (z : Int) + (allow.length : Int) ≤ (1048576 : Int) := by omega
  go_upto_block 6 with fail
  go_cut [9, 13, 14, 15] from 327 to 327 (fun v _ _ _ wx => wx = W ∧ ∃ z : Nat, v = .int .i64 z ∧ z ≤ 1048576)
  case first =>
    go_wp2
    go_loopg [9, 13] (allow.length + 1) (fun gk zv i wi => ∃ k z : Nat, k ≤ allow.length ∧ gk = allow.length + 1 - k ∧ i = .int .i64 k ∧ zv = .int .i64 z ∧ z ≤ 1048576 ∧ wi = W)
    case atStart => exact ⟨0, z + allow.length, Nat.zero_le _, rfl, rfl, by go_num, by omega, rfl⟩
    case round =>
      obtain ⟨k, z, hk, rfl, rfl, rfl, hz, rfl⟩ := hrel
      by_cases hkl : k < allow.length
      · obtain ⟨b, o, r, hA, A1, C1, A2, C2, c1, c2, c3, hp1, hp2, n1, n2, n3⟩ : ∃ b o r, a2 = some ⟨b, o, none⟩ ∧ R1 wr b (o + k * 3) r := at_rule HR2.out hkl
        subst hA
        have HPpr : Hid (Ps wr A1 r.pr) := hp1
        have HPpa : Hid (Ps wr A2 r.pa) := hp2
        have hkl' : (k : Int) < (allow.length : Int) := by omega
        unfold maxLen at n1 n2 n3
        clear hp1 hp2
        go_upto_if 174 with fail
        by_cases hT13 : 1048576 < r.name.size
        · have hT13i : (1048576 : Int) < (r.name.size : Int) := by omega
          go_wp2
          go_ret
          exact ⟨⟨false, rfl⟩, rfl⟩
        have hT13i : (r.name.size : Int) ≤ (1048576 : Int) := by omega
        go_upto_if 184 with fail
        by_cases hT14 : 1048576 < z + r.name.size
        · have hT14i : (1048576 : Int) < (z : Int) + (r.name.size : Int) := by omega
          go_wp2
          go_ret
          exact ⟨⟨false, rfl⟩, rfl⟩
        have hT14i : (z : Int) + (r.name.size : Int) ≤ (1048576 : Int) := by omega
        go_upto_if 191 with fail
        by_cases hT15 : 1048576 < r.pr.length
        · have hT15i : (1048576 : Int) < (r.pr.length : Int) := by omega
          go_wp2
          go_ret
          exact ⟨⟨false, rfl⟩, rfl⟩
        have hT15i : (r.pr.length : Int) ≤ (1048576 : Int) := by omega
        go_upto_if 201 with fail
        by_cases hT16 : 1048576 < z + r.name.size + r.pr.length
        · have hT16i : (1048576 : Int) < (z : Int) + (r.name.size : Int) + (r.pr.length : Int) := by omega
          go_wp2
          go_ret
          exact ⟨⟨false, rfl⟩, rfl⟩
        have hT16i : (z : Int) + (r.name.size : Int) + (r.pr.length : Int) ≤ (1048576 : Int) := by omega
        go_wp2
        go_loopg [9, 14] (r.pr.length + 1) (fun gk zv i wi => ∃ t y : Nat, t ≤ r.pr.length ∧ gk = r.pr.length + 1 - t ∧ i = .int .i64 t ∧ zv = .int .i64 y ∧ y ≤ 1048576 ∧ wi = wr)
        case atStart => exact ⟨0, z + r.name.size + r.pr.length, Nat.zero_le _, rfl, rfl, by go_num, by omega, rfl⟩
        case round =>
          obtain ⟨t, y, ht, rfl, rfl, rfl, hy, rfl⟩ := hrel
          by_cases htl : t < r.pr.length
          · obtain ⟨b2, o2, p, hA, hp1, hp2⟩ : ∃ b2 o2 p, A1 = some ⟨b2, o2, none⟩ ∧ wr.cell? ⟨b2, o2 + t * 2 + 1, none⟩ = some (.string p) ∧ p.size ≤ maxLen := at_pat HPpr.out htl
            subst hA
            have htl' : (t : Int) < (r.pr.length : Int) := by omega
            unfold maxLen at hp2
            go_upto_if 222 with fail
            by_cases hT17 : 1048576 < p.size
            · have hT17i : (1048576 : Int) < (p.size : Int) := by omega
              go_wp2
              go_ret
              exact ⟨⟨false, rfl⟩, rfl⟩
            have hT17i : (p.size : Int) ≤ (1048576 : Int) := by omega
            go_upto_if 236 with fail
            by_cases hT18 : 1048576 < y + p.size
            · have hT18i : (1048576 : Int) < (y : Int) + (p.size : Int) := by omega
              go_wp2
              go_ret
              exact ⟨⟨false, rfl⟩, rfl⟩
            have hT18i : (y : Int) + (p.size : Int) ≤ (1048576 : Int) := by omega
            go_wp2
            go_roundg (r.pr.length + 1 - (t + 1))
            case rel => exact ⟨t + 1, y + p.size, by omega, rfl, by go_num, by go_num, by omega, rfl⟩
            case measure => omega
          · have htl' : (r.pr.length : Int) ≤ (t : Int) := by omega
            go_upto_if 243 with fail
            by_cases hT9 : 1048576 < r.pa.length
            · have hT9i : (1048576 : Int) < (r.pa.length : Int) := by omega
              go_wp2
              go_ret
              exact ⟨⟨false, rfl⟩, rfl⟩
            have hT9i : (r.pa.length : Int) ≤ (1048576 : Int) := by omega
            go_upto_if 253 with fail
            by_cases hT10 : 1048576 < y + r.pa.length
            · have hT10i : (1048576 : Int) < (y : Int) + (r.pa.length : Int) := by omega
              go_wp2
              go_ret
              exact ⟨⟨false, rfl⟩, rfl⟩
            have hT10i : (y : Int) + (r.pa.length : Int) ≤ (1048576 : Int) := by omega
            go_wp2
            go_loopg [9, 15] (r.pa.length + 1) (fun gk zv i wi => ∃ t y : Nat, t ≤ r.pa.length ∧ gk = r.pa.length + 1 - t ∧ i = .int .i64 t ∧ zv = .int .i64 y ∧ y ≤ 1048576 ∧ wi = wr)
            case atStart => exact ⟨0, y + r.pa.length, Nat.zero_le _, rfl, rfl, by go_num, by omega, rfl⟩
            case round =>
              obtain ⟨t, y, ht, rfl, rfl, rfl, hy, rfl⟩ := hrel
              by_cases htl : t < r.pa.length
              · obtain ⟨b2, o2, p, hA, hp1, hp2⟩ : ∃ b2 o2 p, A2 = some ⟨b2, o2, none⟩ ∧ wr.cell? ⟨b2, o2 + t * 2 + 1, none⟩ = some (.string p) ∧ p.size ≤ maxLen := at_pat HPpa.out htl
                subst hA
                have htl' : (t : Int) < (r.pa.length : Int) := by omega
                unfold maxLen at hp2
                go_upto_if 274 with fail
                by_cases hT11 : 1048576 < p.size
                · have hT11i : (1048576 : Int) < (p.size : Int) := by omega
                  go_wp2
                  go_ret
                  exact ⟨⟨false, rfl⟩, rfl⟩
                have hT11i : (p.size : Int) ≤ (1048576 : Int) := by omega
                go_upto_if 288 with fail
                by_cases hT12 : 1048576 < y + p.size
                · have hT12i : (1048576 : Int) < (y : Int) + (p.size : Int) := by omega
                  go_wp2
                  go_ret
                  exact ⟨⟨false, rfl⟩, rfl⟩
                have hT12i : (y : Int) + (p.size : Int) ≤ (1048576 : Int) := by omega
                go_wp2
                go_roundg (r.pa.length + 1 - (t + 1))
                case rel => exact ⟨t + 1, y + p.size, by omega, rfl, by go_num, by go_num, by omega, rfl⟩
                case measure => omega
              · have htl' : (r.pa.length : Int) ≤ (t : Int) := by omega
                go_wp2
                go_roundg (allow.length + 1 - (k + 1))
                case rel => exact ⟨k + 1, y, by omega, rfl, by go_num, rfl, by omega, rfl⟩
                case measure => omega
      · have hkl' : (allow.length : Int) ≤ (k : Int) := by omega
        go_wp2
        go_meet
        case rel => exact ⟨rfl, z, rfl, hz⟩
  case rest =>
    obtain ⟨rfl, y, rfl, hy⟩ := hcut
    go_step
    exact strs5 wc a' vs c' m y hy HS hl hm

set_option maxRecDepth 100000 in
set_option maxHeartbeats 8000000 in
theorem bytes5 (W : World) (a : Option Addr) (deny : List Rule) (c : Nat) (a2 : Option Addr) (allow : List Rule) (c2' : Nat) (hR : Rl W a deny) (hR2 : Rl W a2 allow) (hd : deny.length ≤ maxLen) (ha : allow.length ≤ maxLen) (a' : Option Addr) (vs : List ByteArray) (c' : Nat) (hS : Ss W a' vs) (hl : vs.length ≤ maxLen) (m : ByteArray) (hm : m.size ≤ maxLen) :
    Calls Try.prog 5 #[.slice a deny.length c, .slice a2 allow.length c2', .slice a' vs.length c', .string m] W fun e w' => IsB e ∧ w' = W := by
  have HR1 : Hid (Rl W a deny) := hR
  have HR2 : Hid (Rl W a2 allow) := hR2
  have HS : Hid (Ss W a' vs) := hS
  unfold maxLen at hd ha hl hm
  clear hR hR2 hS
  go_enter Try.func5, Try.ntmps5
  go_upto_if 19 with fail
  by_cases hT19 : 1048576 < deny.length
  · have hT19i : (1048576 : Int) < (deny.length : Int) := by omega
    go_wp2
    go_ret
    exact ⟨⟨false, rfl⟩, rfl⟩
  have hT19i : (deny.length : Int) ≤ (1048576 : Int) := by omega
  go_upto_block 0 with fail
  go_cut [9, 10, 11, 12] from 327 to 327 (fun v _ _ _ wx => wx = W ∧ ∃ z : Nat, v = .int .i64 z ∧ z ≤ 1048576)
  case first =>
    go_wp2
    go_loopg [9, 10] (deny.length + 1) (fun gk zv i wi => ∃ k z : Nat, k ≤ deny.length ∧ gk = deny.length + 1 - k ∧ i = .int .i64 k ∧ zv = .int .i64 z ∧ z ≤ 1048576 ∧ wi = W)
    case atStart => exact ⟨0, deny.length, Nat.zero_le _, rfl, rfl, by go_num, by omega, rfl⟩
    case round =>
      obtain ⟨k, z, hk, rfl, rfl, rfl, hz, rfl⟩ := hrel
      by_cases hkl : k < deny.length
      · obtain ⟨b, o, r, hA, A1, C1, A2, C2, c1, c2, c3, hp1, hp2, n1, n2, n3⟩ : ∃ b o r, a = some ⟨b, o, none⟩ ∧ R1 wr b (o + k * 3) r := at_rule HR1.out hkl
        subst hA
        have HPpr : Hid (Ps wr A1 r.pr) := hp1
        have HPpa : Hid (Ps wr A2 r.pa) := hp2
        have hkl' : (k : Int) < (deny.length : Int) := by omega
        unfold maxLen at n1 n2 n3
        clear hp1 hp2
        go_upto_if 38 with fail
        by_cases hT24 : 1048576 < r.name.size
        · have hT24i : (1048576 : Int) < (r.name.size : Int) := by omega
          go_wp2
          go_ret
          exact ⟨⟨false, rfl⟩, rfl⟩
        have hT24i : (r.name.size : Int) ≤ (1048576 : Int) := by omega
        go_upto_if 48 with fail
        by_cases hT25 : 1048576 < z + r.name.size
        · have hT25i : (1048576 : Int) < (z : Int) + (r.name.size : Int) := by omega
          go_wp2
          go_ret
          exact ⟨⟨false, rfl⟩, rfl⟩
        have hT25i : (z : Int) + (r.name.size : Int) ≤ (1048576 : Int) := by omega
        go_upto_if 55 with fail
        by_cases hT26 : 1048576 < r.pr.length
        · have hT26i : (1048576 : Int) < (r.pr.length : Int) := by omega
          go_wp2
          go_ret
          exact ⟨⟨false, rfl⟩, rfl⟩
        have hT26i : (r.pr.length : Int) ≤ (1048576 : Int) := by omega
        go_upto_if 65 with fail
        by_cases hT27 : 1048576 < z + r.name.size + r.pr.length
        · have hT27i : (1048576 : Int) < (z : Int) + (r.name.size : Int) + (r.pr.length : Int) := by omega
          go_wp2
          go_ret
          exact ⟨⟨false, rfl⟩, rfl⟩
        have hT27i : (z : Int) + (r.name.size : Int) + (r.pr.length : Int) ≤ (1048576 : Int) := by omega
        go_wp2
        go_loopg [9, 11] (r.pr.length + 1) (fun gk zv i wi => ∃ t y : Nat, t ≤ r.pr.length ∧ gk = r.pr.length + 1 - t ∧ i = .int .i64 t ∧ zv = .int .i64 y ∧ y ≤ 1048576 ∧ wi = wr)
        case atStart => exact ⟨0, z + r.name.size + r.pr.length, Nat.zero_le _, rfl, rfl, by go_num, by omega, rfl⟩
        case round =>
          obtain ⟨t, y, ht, rfl, rfl, rfl, hy, rfl⟩ := hrel
          by_cases htl : t < r.pr.length
          · obtain ⟨b2, o2, p, hA, hp1, hp2⟩ : ∃ b2 o2 p, A1 = some ⟨b2, o2, none⟩ ∧ wr.cell? ⟨b2, o2 + t * 2 + 1, none⟩ = some (.string p) ∧ p.size ≤ maxLen := at_pat HPpr.out htl
            subst hA
            have htl' : (t : Int) < (r.pr.length : Int) := by omega
            unfold maxLen at hp2
            go_upto_if 86 with fail
            by_cases hT28 : 1048576 < p.size
            · have hT28i : (1048576 : Int) < (p.size : Int) := by omega
              go_wp2
              go_ret
              exact ⟨⟨false, rfl⟩, rfl⟩
            have hT28i : (p.size : Int) ≤ (1048576 : Int) := by omega
            go_upto_if 100 with fail
            by_cases hT29 : 1048576 < y + p.size
            · have hT29i : (1048576 : Int) < (y : Int) + (p.size : Int) := by omega
              go_wp2
              go_ret
              exact ⟨⟨false, rfl⟩, rfl⟩
            have hT29i : (y : Int) + (p.size : Int) ≤ (1048576 : Int) := by omega
            go_wp2
            go_roundg (r.pr.length + 1 - (t + 1))
            case rel => exact ⟨t + 1, y + p.size, by omega, rfl, by go_num, by go_num, by omega, rfl⟩
            case measure => omega
          · have htl' : (r.pr.length : Int) ≤ (t : Int) := by omega
            go_upto_if 107 with fail
            by_cases hT20 : 1048576 < r.pa.length
            · have hT20i : (1048576 : Int) < (r.pa.length : Int) := by omega
              go_wp2
              go_ret
              exact ⟨⟨false, rfl⟩, rfl⟩
            have hT20i : (r.pa.length : Int) ≤ (1048576 : Int) := by omega
            go_upto_if 117 with fail
            by_cases hT21 : 1048576 < y + r.pa.length
            · have hT21i : (1048576 : Int) < (y : Int) + (r.pa.length : Int) := by omega
              go_wp2
              go_ret
              exact ⟨⟨false, rfl⟩, rfl⟩
            have hT21i : (y : Int) + (r.pa.length : Int) ≤ (1048576 : Int) := by omega
            go_wp2
            go_loopg [9, 12] (r.pa.length + 1) (fun gk zv i wi => ∃ t y : Nat, t ≤ r.pa.length ∧ gk = r.pa.length + 1 - t ∧ i = .int .i64 t ∧ zv = .int .i64 y ∧ y ≤ 1048576 ∧ wi = wr)
            case atStart => exact ⟨0, y + r.pa.length, Nat.zero_le _, rfl, rfl, by go_num, by omega, rfl⟩
            case round =>
              obtain ⟨t, y, ht, rfl, rfl, rfl, hy, rfl⟩ := hrel
              by_cases htl : t < r.pa.length
              · obtain ⟨b2, o2, p, hA, hp1, hp2⟩ : ∃ b2 o2 p, A2 = some ⟨b2, o2, none⟩ ∧ wr.cell? ⟨b2, o2 + t * 2 + 1, none⟩ = some (.string p) ∧ p.size ≤ maxLen := at_pat HPpa.out htl
                subst hA
                have htl' : (t : Int) < (r.pa.length : Int) := by omega
                unfold maxLen at hp2
                go_upto_if 138 with fail
                by_cases hT22 : 1048576 < p.size
                · have hT22i : (1048576 : Int) < (p.size : Int) := by omega
                  go_wp2
                  go_ret
                  exact ⟨⟨false, rfl⟩, rfl⟩
                have hT22i : (p.size : Int) ≤ (1048576 : Int) := by omega
                go_upto_if 152 with fail
                by_cases hT23 : 1048576 < y + p.size
                · have hT23i : (1048576 : Int) < (y : Int) + (p.size : Int) := by omega
                  go_wp2
                  go_ret
                  exact ⟨⟨false, rfl⟩, rfl⟩
                have hT23i : (y : Int) + (p.size : Int) ≤ (1048576 : Int) := by omega
                go_wp2
                go_roundg (r.pa.length + 1 - (t + 1))
                case rel => exact ⟨t + 1, y + p.size, by omega, rfl, by go_num, by go_num, by omega, rfl⟩
                case measure => omega
              · have htl' : (r.pa.length : Int) ≤ (t : Int) := by omega
                go_wp2
                go_roundg (deny.length + 1 - (k + 1))
                case rel => exact ⟨k + 1, y, by omega, rfl, by go_num, rfl, by omega, rfl⟩
                case measure => omega
      · have hkl' : (deny.length : Int) ≤ (k : Int) := by omega
        go_wp2
        go_meet
        case rel => exact ⟨rfl, z, rfl, hz⟩
  case rest =>
    obtain ⟨rfl, y, rfl, hy⟩ := hcut
    go_step
    exact allow5 wc a2 allow c2' a' vs c' m y hy HR2 ha HS hl hm
end Go.Proofs.Qxb6627205a
