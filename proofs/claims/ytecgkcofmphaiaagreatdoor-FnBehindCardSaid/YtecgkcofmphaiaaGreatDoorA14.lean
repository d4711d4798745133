/- A round of the loop over options.
   A round of the loop over options, from its state.
   The loop over the options of a packet of the fourth version: its rounds joined.
   The decoder of packets of the fourth version.
   The decoder of packets of the fourth version.
   The decoder of packets of the fourth version, in both cases. -/
import Derived.Test.YtecgkcofmphaiaaGreatDoorA10
import Derived.Test.YtecgkcofmphaiaaGreatDoorA13
import Derived.LoopN
import Derived.Test.YtecgkcofmphaiaaGreatDoorA11
import Derived.Test.YtecgkcofmphaiaaGreatDoorA12
set_option linter.unusedVariables false
set_option linter.unusedSimpArgs false
set_option linter.unnecessarySimpa false
set_option linter.unusedSectionVars false
namespace Go.Proofs.YtecgkcofmphaiaaGreatDoor.Gpk
open Go.RowKit
set_option linter.unusedVariables false
set_option maxRecDepth 1000000 in
set_option maxHeartbeats 4000000 in
theorem ip4MoreRow (D q hw m : Nat) (f : Nat → Nat) (df : Value) (w : World) (u7 u8 u10 : Value) (n : Nat) (wr : World) (x3 x4 x5 x6 x7 x8 x9 x10 x11 x12 x13 x14 x15 x16 x17 x18 x19 x20 x21 x22 x23 x24 x25 x26 x27 x28 x29 x30 x31 x32 x33 x34 x35 x36 x37 x38 x39 x40 x41 x42 x43 x44 x45 x46 x47 x48 x49 x50 x51 x52 x53 x54 x55 x56 x57 x58 x59 x60 x61 x62 x63 x64 x65 x66 x67 x68 x69 x70 x71 x72 x73 x74 x75 x76 x77 x78 x79 x80 x81 x82 x83 x84 x85 x86 x87 x88 x89 x90 x91 x92 x93 x94 x95 x96 x97 x98 x99 x100 x101 x102 x103 x104 x105 x106 x107 x108 x109 x110 x111 x112 x113 x114 x115 x116 x117 x118 x119 x120 x121 x122 x123 x124 x125 x126 x127 x128 x129 x130 x131 x132 x133 x134 x135 x136 x137 x138 x139 x140 x141 x142 x143 x144 x145 x146 x147 x148 x149 x150 x151 x152 x153 x154 x155 x156 x157 x158 x159 x160 x161 x162 x163 x164 x165 x166 x167 x168 x169 x170 x171 x172 x173 x174 x175 x176 x177 x178 x179 x180 x181 x182 x183 x184 x185 x186 x187 x188 x189 x190 x191 x192 x193 x194 x195 x196 x197 x198 x199 x200 x201 x202 x203 x204 x205 x206 x207 x208 x209 x210 x211 x212 x213 x214 x215 x216 x217 x218 x219 x220 x221 x222 x223 x224 x225 x226 x227 x228 x229 x230 x231 x232 x233 x234 x235 x236 x237 x238 x239 x240 x241 x242 x243 x244 x245 x246 x247 x248 x249 x250 x251 x252 x253 x254 x255 x256 x257 x258 x259 x260 x261 x262 x263 x264 x265 x266 x267 x268 x269 x270 x271 x272 x273 x274 x275 x276 x277 x278 x279 x280 x281 x282 x283 x284 x285 x286 x287 x288 x289 x290 x291 x292 x293 : Value) (R : Act → World → Prop) (hB : Byt w D q f n) (hf : IsB f) (h5 : 5 ≤ hw) (h15 : hw ≤ 15) (hl : hw * 4 ≤ n)
    (y6 y9 y201 y202 y203 y204 y205 y206 y207 y208 y209 y210 y211 y212 y213 y214 y215 y216 y217 y218 y219 y220 y221 y222 y223 y224 y225 y226 y227 y228 y229 y230 y231 y232 y233 y234 y235 y236 y237 y238 y239 y240 y241 y242 y243 y244 y245 y246 y247 y248 y249 y250 y251 y252 y253 y254 y255 y256 y257 y258 y259 y260 y261 y262 y263 y264 y265 y266 y267 y268 y269 y270 y271 y272 y273 y274 y275 y276 y277 y278 y279 y280 y281 y282 y283 y284 y285 y286 y287 y288 y289 y290 y291 y292 y293 V : Value) (i k C : Nat) (A : Option Addr) (xs : List Value) (hi : i ≤ hw * 4 - 20) (hC : hw * 4 - 20 - i ≤ C) (hCm : C ≤ maxLen) (hA : i < hw * 4 - 20 → A = some ⟨D, q + 20 + i, none⟩) (hki : k ≤ i)
    (HL : Hid (Laid w wr 185 (IpH D q hw m u7 u8 u10))) (hc14 : wr.cell? ⟨w.heap.size, 14, none⟩ = some V) (HOW : Hid (wr.ownsRow (w.heap.size + 1) 295 3 V k xs)) (hrow : ∃ g cap cur, V = .slice (some ⟨g, 0, none⟩) k cap ∧ w.heap.size + 1 ≤ g ∧ wr.heap[g]? = some (.cells cur 295) ∧ k ≤ cap ∧ cap ≤ maxLen ∧ cur.size = cap * 3 ∧ cur.toList.take (k * 3) = xs) (hlt : i < hw * 4 - 20) (h0 : f (20 + i) ≠ 0) (h00 : f (20 + i) ≠ 1) (h2 : 3 ≤ f (20 + (i + 1))) (h1 : i + 1 < hw * 4 - 20) (h3 : i + f (20 + (i + 1)) ≤ hw * 4 - 20) (HNX : Hid (∀ a' w', IpS D q hw m f df w u7 u8 u10 x3 x4 x5 x6 x7 x8 x9 x10 x11 x12 x13 x14 x15 x16 x17 x18 x19 x20 x21 x22 x23 x24 x25 x26 x27 x28 x29 x30 x31 x32 x33 x34 x35 x36 x37 x38 x39 x40 x41 x42 x43 x44 x45 x46 x47 x48 x49 x50 x51 x52 x53 x54 x55 x56 x57 x58 x59 x60 x61 x62 x63 x64 x65 x66 x67 x68 x69 x70 x71 x72 x73 x74 x75 x76 x77 x78 x79 x80 x81 x82 x83 x84 x85 x86 x87 x88 x89 x90 x91 x92 x93 x94 x95 x96 x97 x98 x99 x100 x101 x102 x103 x104 x105 x106 x107 x108 x109 x110 x111 x112 x113 x114 x115 x116 x117 x118 x119 x120 x121 x122 x123 x124 x125 x126 x127 x128 x129 x130 x131 x132 x133 x134 x135 x136 x137 x138 x139 x140 x141 x142 x143 x144 x145 x146 x147 x148 x149 x150 x151 x152 x153 x154 x155 x156 x157 x158 x159 x160 x161 x162 x163 x164 x165 x166 x167 x168 x169 x170 x171 x172 x173 x174 x175 x176 x177 x178 x179 x180 x181 x182 x183 x184 x185 x186 x187 x188 x189 x190 x191 x192 x193 x194 x195 x196 x197 x198 x199 x200 x201 x202 x203 x204 x205 x206 x207 x208 x209 x210 x211 x212 x213 x214 x215 x216 x217 x218 x219 x220 x221 x222 x223 x224 x225 x226 x227 x228 x229 x230 x231 x232 x233 x234 x235 x236 x237 x238 x239 x240 x241 x242 x243 x244 x245 x246 x247 x248 x249 x250 x251 x252 x253 x254 x255 x256 x257 x258 x259 x260 x261 x262 x263 x264 x265 x266 x267 x268 x269 x270 x271 x272 x273 x274 x275 x276 x277 x278 x279 x280 x281 x282 x283 x284 x285 x286 x287 x288 x289 x290 x291 x292 x293 (i + f (20 + (i + 1))) (k + 1) a' w' → R a' w')) :
    Code.wp Tryz.prog ip4Body (Exit.then R (IpQ D q hw m f df w u7 u8 u10 x3 x4 x5 x6 x7 x8 x9 x10 x11 x12 x13 x14 x15 x16 x17 x18 x19 x20 x21 x22 x23 x24 x25 x26 x27 x28 x29 x30 x31 x32 x33 x34 x35 x36 x37 x38 x39 x40 x41 x42 x43 x44 x45 x46 x47 x48 x49 x50 x51 x52 x53 x54 x55 x56 x57 x58 x59 x60 x61 x62 x63 x64 x65 x66 x67 x68 x69 x70 x71 x72 x73 x74 x75 x76 x77 x78 x79 x80 x81 x82 x83 x84 x85 x86 x87 x88 x89 x90 x91 x92 x93 x94 x95 x96 x97 x98 x99 x100 x101 x102 x103 x104 x105 x106 x107 x108 x109 x110 x111 x112 x113 x114 x115 x116 x117 x118 x119 x120 x121 x122 x123 x124 x125 x126 x127 x128 x129 x130 x131 x132 x133 x134 x135 x136 x137 x138 x139 x140 x141 x142 x143 x144 x145 x146 x147 x148 x149 x150 x151 x152 x153 x154 x155 x156 x157 x158 x159 x160 x161 x162 x163 x164 x165 x166 x167 x168 x169 x170 x171 x172 x173 x174 x175 x176 x177 x178 x179 x180 x181 x182 x183 x184 x185 x186 x187 x188 x189 x190 x191 x192 x193 x194 x195 x196 x197 x198 x199 x200 x201 x202 x203 x204 x205 x206 x207 x208 x209 x210 x211 x212 x213 x214 x215 x216 x217 x218 x219 x220 x221 x222 x223 x224 x225 x226 x227 x228 x229 x230 x231 x232 x233 x234 x235 x236 x237 x238 x239 x240 x241 x242 x243 x244 x245 x246 x247 x248 x249 x250 x251 x252 x253 x254 x255 x256 x257 x258 x259 x260 x261 x262 x263 x264 x265 x266 x267 x268 x269 x270 x271 x272 x273 x274 x275 x276 x277 x278 x279 x280 x281 x282 x283 x284 x285 x286 x287 x288 x289 x290 x291 x292 x293)) ⟨List.toArray (.pointer (some ⟨w.heap.size, 0, none⟩) :: .slice A (hw * 4 - 20 - i) C :: df :: x3 :: x4 :: x5 :: y6 :: x7 :: x8 :: y9 :: x10 :: x11 :: x12 :: x13 :: x14 :: x15 :: x16 :: x17 :: x18 :: x19 :: x20 :: x21 :: x22 :: x23 :: x24 :: x25 :: x26 :: x27 :: x28 :: x29 :: x30 :: x31 :: x32 :: x33 :: x34 :: x35 :: x36 :: x37 :: x38 :: x39 :: x40 :: x41 :: x42 :: x43 :: x44 :: x45 :: x46 :: x47 :: x48 :: x49 :: x50 :: x51 :: x52 :: x53 :: x54 :: x55 :: x56 :: x57 :: x58 :: x59 :: x60 :: x61 :: x62 :: x63 :: x64 :: x65 :: x66 :: x67 :: x68 :: x69 :: x70 :: x71 :: x72 :: x73 :: x74 :: x75 :: x76 :: x77 :: x78 :: x79 :: x80 :: x81 :: x82 :: x83 :: x84 :: x85 :: x86 :: x87 :: x88 :: x89 :: x90 :: x91 :: x92 :: x93 :: x94 :: x95 :: x96 :: x97 :: x98 :: x99 :: x100 :: x101 :: x102 :: x103 :: x104 :: x105 :: x106 :: x107 :: x108 :: x109 :: x110 :: x111 :: x112 :: x113 :: x114 :: x115 :: x116 :: x117 :: x118 :: x119 :: x120 :: x121 :: x122 :: x123 :: x124 :: x125 :: x126 :: x127 :: x128 :: x129 :: x130 :: x131 :: x132 :: x133 :: x134 :: x135 :: x136 :: x137 :: x138 :: x139 :: x140 :: x141 :: x142 :: x143 :: x144 :: x145 :: x146 :: x147 :: x148 :: x149 :: x150 :: x151 :: x152 :: x153 :: x154 :: x155 :: x156 :: x157 :: x158 :: x159 :: x160 :: x161 :: x162 :: x163 :: x164 :: x165 :: x166 :: x167 :: x168 :: x169 :: x170 :: x171 :: x172 :: x173 :: x174 :: x175 :: x176 :: x177 :: x178 :: x179 :: x180 :: x181 :: x182 :: x183 :: x184 :: x185 :: x186 :: x187 :: x188 :: x189 :: x190 :: x191 :: x192 :: x193 :: x194 :: x195 :: x196 :: x197 :: x198 :: x199 :: x200 :: y201 :: y202 :: y203 :: y204 :: y205 :: y206 :: y207 :: y208 :: y209 :: y210 :: y211 :: y212 :: y213 :: y214 :: y215 :: y216 :: y217 :: y218 :: y219 :: y220 :: y221 :: y222 :: y223 :: y224 :: y225 :: y226 :: y227 :: y228 :: y229 :: y230 :: y231 :: y232 :: y233 :: y234 :: y235 :: y236 :: y237 :: y238 :: y239 :: y240 :: y241 :: y242 :: y243 :: y244 :: y245 :: y246 :: y247 :: y248 :: y249 :: y250 :: y251 :: y252 :: y253 :: y254 :: y255 :: y256 :: y257 :: y258 :: y259 :: y260 :: y261 :: y262 :: y263 :: y264 :: y265 :: y266 :: y267 :: y268 :: y269 :: y270 :: y271 :: y272 :: y273 :: y274 :: y275 :: y276 :: y277 :: y278 :: y279 :: y280 :: y281 :: y282 :: y283 :: y284 :: y285 :: y286 :: y287 :: y288 :: y289 :: y290 :: y291 :: y292 :: y293 :: []), []⟩ wr := by
  conv => arg 2; whnf
  have hD := hB.lt (by omega)
  obtain ⟨i0, hi0, hz0, hz1, hz2⟩ := info_parts Tryz.info295
  have hCm' := hCm
  unfold maxLen at hCm'
  have hsz := HL.out.lt
  have hf14 := HL.out.unfrozen 14
  have hDr : D < wr.heap.size := by omega
  have hsz_1 : w.heap.size < wr.heap.size + 1 := by omega
  have hsz_2 : w.heap.size < wr.heap.size + 2 := by omega
  have hsz_3 : w.heap.size < wr.heap.size + 1 + 1 := by omega
  have hsz_4 : w.heap.size < wr.heap.size + 1 + 1 + 1 := by omega
  have hsz_5 : w.heap.size < wr.heap.size + 3 := by omega
  have hA' := hA hlt
  subst hA'
  clear hA
  have bi := hf (20 + i)
  have di : wr.cell? ⟨D, q + 20 + i, none⟩ = some (.int .u8 (f (20 + i) : Nat)) := by
    have := (hB.below HL.out.1 hD).at (20 + i) (by omega)
    rw [← this, Nat.add_assoc]
  have heq := fun (w : World) (a : Option Addr) (n c : Nat) => Lib.run_eql_slice_nil (P := Tryz.prog) w 183 295 a n c 0 0 Tryz.underlying183
  have hmk := makeFour
  obtain ⟨gr, capr, curr, rfl, _, _, hkc, hcm, _, _⟩ := hrow
  have HO : Hid (∀ (o2 o3 : Obj) (n : Nat), (((wr.alloc o2).alloc o3).drewN n).ownsRow (w.heap.size + 1) 295 3 (.slice (some ⟨gr, 0, none⟩) k capr) k xs) := fun o2 o3 n => (HOW.out.alloc o2).alloc o3
  have H1 : (1 : Int) < ((f (20 + i) : Nat) : Int) := by omega
  have b2' := hf (20 + (i + 1))
  have di1 : wr.cell? ⟨D, q + 20 + i + 1, none⟩ = some (.int .u8 (f (20 + (i + 1)) : Nat)) := by
    have := (hB.below HL.out.1 hD).at (20 + (i + 1)) (by omega)
    rw [← this]
    congr 2
    omega
  clear h0 h00
  go_wp2_with fail
  all_goals go_region_law (first | ((refine step_append_lies _ rfl (.tmp 255) (.tmp 257) 183 rfl (w.heap.size + 1) 295 i0 (.agg #[.int .u8 0, .int .u8 0, .slice none 0 0]) 3 32 Tryz.underlying183 hi0 hz0 hz1 hz2 rfl (by decide) _ k xs rfl (HO.out _ _ _) ⟨wr.heap.size + 1, 0, none⟩ 1 1 [.int .u8 (f (20 + i) : Nat), .int .u8 (f (20 + (i + 1)) : Nat), _] rfl rfl (newsLast _ #[.int .u8 (f (20 + i) : Nat), .int .u8 (f (20 + (i + 1)) : Nat), _] 295 _ _ (by simp)) (by intro u hu; simp at hu; rcases hu with rfl | rfl | rfl <;> rfl) (by decide) (by unfold maxLen; omega) (by omega) (by simp; omega) _ rfl ?_); intro r1 cap1 w1 hown1 hgrow hat hlt1; (have hL1 : Laid w w1 185 (IpH D q hw m u7 u8 u10) := Laid.grown (by repeat first | exact HL.out | refine Laid.drewN ?_ _ | refine Laid.alloc ?_ _ | refine Laid.set ?_ 14 _ (fun cs h => h.set 14 (by omega) (by omega) (by omega) (by omega) _) | refine Laid.set ?_ 15 _ (fun cs h => h.set 15 (by omega) (by omega) (by omega) (by omega) _)) hgrow (fun k hk => (HOW.out.lt k hk).1)); obtain ⟨u14, e14⟩ := hL1.cell 14 16 (by omega) (fun cs h => h.1.size); obtain ⟨u15, e15⟩ := hL1.cell 15 16 (by omega) (fun cs h => h.1.size); have f14 := hL1.unfrozen 14; have f15 := hL1.unfrozen 15; have hz1' := hL1.lt; have HL1 := Lib.hid hL1; have HN := Lib.hid hown1; clear hL1 hown1 hgrow hat hlt1))
  all_goals go_wp2
  all_goals
    obtain ⟨ys, HYS⟩ : ∃ ys, Hid (w1.ownsRow (w.heap.size + 1) 295 3 (.slice (some ⟨r1, 0, none⟩) (k + 1) cap1) (k + 1) ys) := ⟨_, HN⟩
    refine HNX.out _ _ ?_
    refine ⟨_, _, .slice (some ⟨r1, 0, none⟩) (k + 1) cap1, ys, _, _, _, _, _, _, _, _, _, _, _, _, _, _, _, _, _, _, _, _, _, _, _, _, _, _, _, _, _, _, _, _, _, _, _, _, _, _, _, _, _, _, _, _, _, _, _, _, _, _, _, _, _, _, _, _, _, _, _, _, _, _, _, _, _, _, _, _, _, _, _, _, _, _, _, _, _, _, _, _, _, _, _, _, _, _, _, _, _, _, _, _, _, _, _, by rw [show hw * 4 - 20 - (i + f (20 + (i + 1))) = hw * 4 - 20 - i - f (20 + (i + 1)) from by omega], by omega, by omega, by unfold maxLen; omega, fun hlt2 => by first | rfl | (rw [if_neg (by omega)]; rfl) | (rw [if_neg (by omega)]; exact congrArg (fun o => some (Addr.mk D o none)) (by omega)) | (exact congrArg (fun o => some (Addr.mk D o none)) (by omega)) | omega, by omega, Lib.hid (by repeat first | exact HL1.out | refine Laid.drewN ?_ _ | refine Laid.alloc ?_ _ | refine Laid.set ?_ 14 _ (fun cs h => h.set 14 (by omega) (by omega) (by omega) (by omega) _) | refine Laid.set ?_ 15 _ (fun cs h => h.set 15 (by omega) (by omega) (by omega) (by omega) _)), World.cell?_setCell_same _ _ _ e14, Lib.hid (by repeat first | exact HYS.out | refine ownsRow_setCell_below ?_ (Nat.lt_succ_self _) _)⟩
end Go.Proofs.YtecgkcofmphaiaaGreatDoor.Gpk
namespace Go.Proofs.YtecgkcofmphaiaaGreatDoor.Gpk
open Go.RowKit
set_option linter.unusedVariables false
set_option maxRecDepth 1000000 in
set_option maxHeartbeats 4000000 in
theorem ip4MoreS (D q hw m : Nat) (f : Nat → Nat) (df : Value) (w : World) (u7 u8 u10 : Value) (n : Nat) (wr : World) (x3 x4 x5 x6 x7 x8 x9 x10 x11 x12 x13 x14 x15 x16 x17 x18 x19 x20 x21 x22 x23 x24 x25 x26 x27 x28 x29 x30 x31 x32 x33 x34 x35 x36 x37 x38 x39 x40 x41 x42 x43 x44 x45 x46 x47 x48 x49 x50 x51 x52 x53 x54 x55 x56 x57 x58 x59 x60 x61 x62 x63 x64 x65 x66 x67 x68 x69 x70 x71 x72 x73 x74 x75 x76 x77 x78 x79 x80 x81 x82 x83 x84 x85 x86 x87 x88 x89 x90 x91 x92 x93 x94 x95 x96 x97 x98 x99 x100 x101 x102 x103 x104 x105 x106 x107 x108 x109 x110 x111 x112 x113 x114 x115 x116 x117 x118 x119 x120 x121 x122 x123 x124 x125 x126 x127 x128 x129 x130 x131 x132 x133 x134 x135 x136 x137 x138 x139 x140 x141 x142 x143 x144 x145 x146 x147 x148 x149 x150 x151 x152 x153 x154 x155 x156 x157 x158 x159 x160 x161 x162 x163 x164 x165 x166 x167 x168 x169 x170 x171 x172 x173 x174 x175 x176 x177 x178 x179 x180 x181 x182 x183 x184 x185 x186 x187 x188 x189 x190 x191 x192 x193 x194 x195 x196 x197 x198 x199 x200 x201 x202 x203 x204 x205 x206 x207 x208 x209 x210 x211 x212 x213 x214 x215 x216 x217 x218 x219 x220 x221 x222 x223 x224 x225 x226 x227 x228 x229 x230 x231 x232 x233 x234 x235 x236 x237 x238 x239 x240 x241 x242 x243 x244 x245 x246 x247 x248 x249 x250 x251 x252 x253 x254 x255 x256 x257 x258 x259 x260 x261 x262 x263 x264 x265 x266 x267 x268 x269 x270 x271 x272 x273 x274 x275 x276 x277 x278 x279 x280 x281 x282 x283 x284 x285 x286 x287 x288 x289 x290 x291 x292 x293 : Value) (R : Act → World → Prop) (hB : Byt w D q f n) (hf : IsB f) (h5 : 5 ≤ hw) (h15 : hw ≤ 15) (hl : hw * 4 ≤ n)
    (i k : Nat) (a : Act) (hs : IpS D q hw m f df w u7 u8 u10 x3 x4 x5 x6 x7 x8 x9 x10 x11 x12 x13 x14 x15 x16 x17 x18 x19 x20 x21 x22 x23 x24 x25 x26 x27 x28 x29 x30 x31 x32 x33 x34 x35 x36 x37 x38 x39 x40 x41 x42 x43 x44 x45 x46 x47 x48 x49 x50 x51 x52 x53 x54 x55 x56 x57 x58 x59 x60 x61 x62 x63 x64 x65 x66 x67 x68 x69 x70 x71 x72 x73 x74 x75 x76 x77 x78 x79 x80 x81 x82 x83 x84 x85 x86 x87 x88 x89 x90 x91 x92 x93 x94 x95 x96 x97 x98 x99 x100 x101 x102 x103 x104 x105 x106 x107 x108 x109 x110 x111 x112 x113 x114 x115 x116 x117 x118 x119 x120 x121 x122 x123 x124 x125 x126 x127 x128 x129 x130 x131 x132 x133 x134 x135 x136 x137 x138 x139 x140 x141 x142 x143 x144 x145 x146 x147 x148 x149 x150 x151 x152 x153 x154 x155 x156 x157 x158 x159 x160 x161 x162 x163 x164 x165 x166 x167 x168 x169 x170 x171 x172 x173 x174 x175 x176 x177 x178 x179 x180 x181 x182 x183 x184 x185 x186 x187 x188 x189 x190 x191 x192 x193 x194 x195 x196 x197 x198 x199 x200 x201 x202 x203 x204 x205 x206 x207 x208 x209 x210 x211 x212 x213 x214 x215 x216 x217 x218 x219 x220 x221 x222 x223 x224 x225 x226 x227 x228 x229 x230 x231 x232 x233 x234 x235 x236 x237 x238 x239 x240 x241 x242 x243 x244 x245 x246 x247 x248 x249 x250 x251 x252 x253 x254 x255 x256 x257 x258 x259 x260 x261 x262 x263 x264 x265 x266 x267 x268 x269 x270 x271 x272 x273 x274 x275 x276 x277 x278 x279 x280 x281 x282 x283 x284 x285 x286 x287 x288 x289 x290 x291 x292 x293 i k a wr) (hlt : i < hw * 4 - 20) (h0 : f (20 + i) ≠ 0) (h00 : f (20 + i) ≠ 1) (h2 : 3 ≤ f (20 + (i + 1))) (h1 : i + 1 < hw * 4 - 20) (h3 : i + f (20 + (i + 1)) ≤ hw * 4 - 20) (HNX : Hid (∀ k a' w', IpS D q hw m f df w u7 u8 u10 x3 x4 x5 x6 x7 x8 x9 x10 x11 x12 x13 x14 x15 x16 x17 x18 x19 x20 x21 x22 x23 x24 x25 x26 x27 x28 x29 x30 x31 x32 x33 x34 x35 x36 x37 x38 x39 x40 x41 x42 x43 x44 x45 x46 x47 x48 x49 x50 x51 x52 x53 x54 x55 x56 x57 x58 x59 x60 x61 x62 x63 x64 x65 x66 x67 x68 x69 x70 x71 x72 x73 x74 x75 x76 x77 x78 x79 x80 x81 x82 x83 x84 x85 x86 x87 x88 x89 x90 x91 x92 x93 x94 x95 x96 x97 x98 x99 x100 x101 x102 x103 x104 x105 x106 x107 x108 x109 x110 x111 x112 x113 x114 x115 x116 x117 x118 x119 x120 x121 x122 x123 x124 x125 x126 x127 x128 x129 x130 x131 x132 x133 x134 x135 x136 x137 x138 x139 x140 x141 x142 x143 x144 x145 x146 x147 x148 x149 x150 x151 x152 x153 x154 x155 x156 x157 x158 x159 x160 x161 x162 x163 x164 x165 x166 x167 x168 x169 x170 x171 x172 x173 x174 x175 x176 x177 x178 x179 x180 x181 x182 x183 x184 x185 x186 x187 x188 x189 x190 x191 x192 x193 x194 x195 x196 x197 x198 x199 x200 x201 x202 x203 x204 x205 x206 x207 x208 x209 x210 x211 x212 x213 x214 x215 x216 x217 x218 x219 x220 x221 x222 x223 x224 x225 x226 x227 x228 x229 x230 x231 x232 x233 x234 x235 x236 x237 x238 x239 x240 x241 x242 x243 x244 x245 x246 x247 x248 x249 x250 x251 x252 x253 x254 x255 x256 x257 x258 x259 x260 x261 x262 x263 x264 x265 x266 x267 x268 x269 x270 x271 x272 x273 x274 x275 x276 x277 x278 x279 x280 x281 x282 x283 x284 x285 x286 x287 x288 x289 x290 x291 x292 x293 (i + f (20 + (i + 1))) (k + 1) a' w' → R a' w')) :
    Code.wp Tryz.prog ip4Body (Exit.then R (IpQ D q hw m f df w u7 u8 u10 x3 x4 x5 x6 x7 x8 x9 x10 x11 x12 x13 x14 x15 x16 x17 x18 x19 x20 x21 x22 x23 x24 x25 x26 x27 x28 x29 x30 x31 x32 x33 x34 x35 x36 x37 x38 x39 x40 x41 x42 x43 x44 x45 x46 x47 x48 x49 x50 x51 x52 x53 x54 x55 x56 x57 x58 x59 x60 x61 x62 x63 x64 x65 x66 x67 x68 x69 x70 x71 x72 x73 x74 x75 x76 x77 x78 x79 x80 x81 x82 x83 x84 x85 x86 x87 x88 x89 x90 x91 x92 x93 x94 x95 x96 x97 x98 x99 x100 x101 x102 x103 x104 x105 x106 x107 x108 x109 x110 x111 x112 x113 x114 x115 x116 x117 x118 x119 x120 x121 x122 x123 x124 x125 x126 x127 x128 x129 x130 x131 x132 x133 x134 x135 x136 x137 x138 x139 x140 x141 x142 x143 x144 x145 x146 x147 x148 x149 x150 x151 x152 x153 x154 x155 x156 x157 x158 x159 x160 x161 x162 x163 x164 x165 x166 x167 x168 x169 x170 x171 x172 x173 x174 x175 x176 x177 x178 x179 x180 x181 x182 x183 x184 x185 x186 x187 x188 x189 x190 x191 x192 x193 x194 x195 x196 x197 x198 x199 x200 x201 x202 x203 x204 x205 x206 x207 x208 x209 x210 x211 x212 x213 x214 x215 x216 x217 x218 x219 x220 x221 x222 x223 x224 x225 x226 x227 x228 x229 x230 x231 x232 x233 x234 x235 x236 x237 x238 x239 x240 x241 x242 x243 x244 x245 x246 x247 x248 x249 x250 x251 x252 x253 x254 x255 x256 x257 x258 x259 x260 x261 x262 x263 x264 x265 x266 x267 x268 x269 x270 x271 x272 x273 x274 x275 x276 x277 x278 x279 x280 x281 x282 x283 x284 x285 x286 x287 x288 x289 x290 x291 x292 x293)) a wr := by
  obtain ⟨C, A, V, xs, y6, y9, y201, y202, y203, y204, y205, y206, y207, y208, y209, y210, y211, y212, y213, y214, y215, y216, y217, y218, y219, y220, y221, y222, y223, y224, y225, y226, y227, y228, y229, y230, y231, y232, y233, y234, y235, y236, y237, y238, y239, y240, y241, y242, y243, y244, y245, y246, y247, y248, y249, y250, y251, y252, y253, y254, y255, y256, y257, y258, y259, y260, y261, y262, y263, y264, y265, y266, y267, y268, y269, y270, y271, y272, y273, y274, y275, y276, y277, y278, y279, y280, y281, y282, y283, y284, y285, y286, y287, y288, y289, y290, y291, y292, y293, rfl, hi, hC, hCm, hA, hki, HL, hc14, HOW⟩ := hs
  rcases HOW.out.2 with hnil | hrow
  · exact ip4MoreNil D q hw m f df w u7 u8 u10 n wr x3 x4 x5 x6 x7 x8 x9 x10 x11 x12 x13 x14 x15 x16 x17 x18 x19 x20 x21 x22 x23 x24 x25 x26 x27 x28 x29 x30 x31 x32 x33 x34 x35 x36 x37 x38 x39 x40 x41 x42 x43 x44 x45 x46 x47 x48 x49 x50 x51 x52 x53 x54 x55 x56 x57 x58 x59 x60 x61 x62 x63 x64 x65 x66 x67 x68 x69 x70 x71 x72 x73 x74 x75 x76 x77 x78 x79 x80 x81 x82 x83 x84 x85 x86 x87 x88 x89 x90 x91 x92 x93 x94 x95 x96 x97 x98 x99 x100 x101 x102 x103 x104 x105 x106 x107 x108 x109 x110 x111 x112 x113 x114 x115 x116 x117 x118 x119 x120 x121 x122 x123 x124 x125 x126 x127 x128 x129 x130 x131 x132 x133 x134 x135 x136 x137 x138 x139 x140 x141 x142 x143 x144 x145 x146 x147 x148 x149 x150 x151 x152 x153 x154 x155 x156 x157 x158 x159 x160 x161 x162 x163 x164 x165 x166 x167 x168 x169 x170 x171 x172 x173 x174 x175 x176 x177 x178 x179 x180 x181 x182 x183 x184 x185 x186 x187 x188 x189 x190 x191 x192 x193 x194 x195 x196 x197 x198 x199 x200 x201 x202 x203 x204 x205 x206 x207 x208 x209 x210 x211 x212 x213 x214 x215 x216 x217 x218 x219 x220 x221 x222 x223 x224 x225 x226 x227 x228 x229 x230 x231 x232 x233 x234 x235 x236 x237 x238 x239 x240 x241 x242 x243 x244 x245 x246 x247 x248 x249 x250 x251 x252 x253 x254 x255 x256 x257 x258 x259 x260 x261 x262 x263 x264 x265 x266 x267 x268 x269 x270 x271 x272 x273 x274 x275 x276 x277 x278 x279 x280 x281 x282 x283 x284 x285 x286 x287 x288 x289 x290 x291 x292 x293 R hB hf h5 h15 hl y6 y9 y201 y202 y203 y204 y205 y206 y207 y208 y209 y210 y211 y212 y213 y214 y215 y216 y217 y218 y219 y220 y221 y222 y223 y224 y225 y226 y227 y228 y229 y230 y231 y232 y233 y234 y235 y236 y237 y238 y239 y240 y241 y242 y243 y244 y245 y246 y247 y248 y249 y250 y251 y252 y253 y254 y255 y256 y257 y258 y259 y260 y261 y262 y263 y264 y265 y266 y267 y268 y269 y270 y271 y272 y273 y274 y275 y276 y277 y278 y279 y280 y281 y282 y283 y284 y285 y286 y287 y288 y289 y290 y291 y292 y293 V i k C A xs hi hC hCm hA hki HL hc14 HOW hnil hlt h0 h00 h2 h1 h3 (Lib.hid (fun a' w' h => HNX.out _ a' w' h))
  · exact ip4MoreRow D q hw m f df w u7 u8 u10 n wr x3 x4 x5 x6 x7 x8 x9 x10 x11 x12 x13 x14 x15 x16 x17 x18 x19 x20 x21 x22 x23 x24 x25 x26 x27 x28 x29 x30 x31 x32 x33 x34 x35 x36 x37 x38 x39 x40 x41 x42 x43 x44 x45 x46 x47 x48 x49 x50 x51 x52 x53 x54 x55 x56 x57 x58 x59 x60 x61 x62 x63 x64 x65 x66 x67 x68 x69 x70 x71 x72 x73 x74 x75 x76 x77 x78 x79 x80 x81 x82 x83 x84 x85 x86 x87 x88 x89 x90 x91 x92 x93 x94 x95 x96 x97 x98 x99 x100 x101 x102 x103 x104 x105 x106 x107 x108 x109 x110 x111 x112 x113 x114 x115 x116 x117 x118 x119 x120 x121 x122 x123 x124 x125 x126 x127 x128 x129 x130 x131 x132 x133 x134 x135 x136 x137 x138 x139 x140 x141 x142 x143 x144 x145 x146 x147 x148 x149 x150 x151 x152 x153 x154 x155 x156 x157 x158 x159 x160 x161 x162 x163 x164 x165 x166 x167 x168 x169 x170 x171 x172 x173 x174 x175 x176 x177 x178 x179 x180 x181 x182 x183 x184 x185 x186 x187 x188 x189 x190 x191 x192 x193 x194 x195 x196 x197 x198 x199 x200 x201 x202 x203 x204 x205 x206 x207 x208 x209 x210 x211 x212 x213 x214 x215 x216 x217 x218 x219 x220 x221 x222 x223 x224 x225 x226 x227 x228 x229 x230 x231 x232 x233 x234 x235 x236 x237 x238 x239 x240 x241 x242 x243 x244 x245 x246 x247 x248 x249 x250 x251 x252 x253 x254 x255 x256 x257 x258 x259 x260 x261 x262 x263 x264 x265 x266 x267 x268 x269 x270 x271 x272 x273 x274 x275 x276 x277 x278 x279 x280 x281 x282 x283 x284 x285 x286 x287 x288 x289 x290 x291 x292 x293 R hB hf h5 h15 hl y6 y9 y201 y202 y203 y204 y205 y206 y207 y208 y209 y210 y211 y212 y213 y214 y215 y216 y217 y218 y219 y220 y221 y222 y223 y224 y225 y226 y227 y228 y229 y230 y231 y232 y233 y234 y235 y236 y237 y238 y239 y240 y241 y242 y243 y244 y245 y246 y247 y248 y249 y250 y251 y252 y253 y254 y255 y256 y257 y258 y259 y260 y261 y262 y263 y264 y265 y266 y267 y268 y269 y270 y271 y272 y273 y274 y275 y276 y277 y278 y279 y280 y281 y282 y283 y284 y285 y286 y287 y288 y289 y290 y291 y292 y293 V i k C A xs hi hC hCm hA hki HL hc14 HOW hrow hlt h0 h00 h2 h1 h3 (Lib.hid (fun a' w' h => HNX.out _ a' w' h))
end Go.Proofs.YtecgkcofmphaiaaGreatDoor.Gpk
namespace Go.Proofs.YtecgkcofmphaiaaGreatDoor.Gpk
open Go.RowKit
set_option linter.unusedVariables false
set_option maxRecDepth 1000000 in
set_option maxHeartbeats 4000000 in
theorem ip4Rounds (D q hw m : Nat) (f : Nat → Nat) (df : Value) (w : World) (u7 u8 u10 : Value) (n : Nat) (x3 x4 x5 x6 x7 x8 x9 x10 x11 x12 x13 x14 x15 x16 x17 x18 x19 x20 x21 x22 x23 x24 x25 x26 x27 x28 x29 x30 x31 x32 x33 x34 x35 x36 x37 x38 x39 x40 x41 x42 x43 x44 x45 x46 x47 x48 x49 x50 x51 x52 x53 x54 x55 x56 x57 x58 x59 x60 x61 x62 x63 x64 x65 x66 x67 x68 x69 x70 x71 x72 x73 x74 x75 x76 x77 x78 x79 x80 x81 x82 x83 x84 x85 x86 x87 x88 x89 x90 x91 x92 x93 x94 x95 x96 x97 x98 x99 x100 x101 x102 x103 x104 x105 x106 x107 x108 x109 x110 x111 x112 x113 x114 x115 x116 x117 x118 x119 x120 x121 x122 x123 x124 x125 x126 x127 x128 x129 x130 x131 x132 x133 x134 x135 x136 x137 x138 x139 x140 x141 x142 x143 x144 x145 x146 x147 x148 x149 x150 x151 x152 x153 x154 x155 x156 x157 x158 x159 x160 x161 x162 x163 x164 x165 x166 x167 x168 x169 x170 x171 x172 x173 x174 x175 x176 x177 x178 x179 x180 x181 x182 x183 x184 x185 x186 x187 x188 x189 x190 x191 x192 x193 x194 x195 x196 x197 x198 x199 x200 x201 x202 x203 x204 x205 x206 x207 x208 x209 x210 x211 x212 x213 x214 x215 x216 x217 x218 x219 x220 x221 x222 x223 x224 x225 x226 x227 x228 x229 x230 x231 x232 x233 x234 x235 x236 x237 x238 x239 x240 x241 x242 x243 x244 x245 x246 x247 x248 x249 x250 x251 x252 x253 x254 x255 x256 x257 x258 x259 x260 x261 x262 x263 x264 x265 x266 x267 x268 x269 x270 x271 x272 x273 x274 x275 x276 x277 x278 x279 x280 x281 x282 x283 x284 x285 x286 x287 x288 x289 x290 x291 x292 x293 : Value) (hB : Byt w D q f n) (hf : IsB f) (h5 : 5 ≤ hw) (h15 : hw ≤ 15) (hl : hw * 4 ≤ n) (i : Nat) (hwf : WF 3 (fun i => f (20 + i)) (hw * 4 - 20) i) :
    ∃ N, ∀ k a wr, IpS D q hw m f df w u7 u8 u10 x3 x4 x5 x6 x7 x8 x9 x10 x11 x12 x13 x14 x15 x16 x17 x18 x19 x20 x21 x22 x23 x24 x25 x26 x27 x28 x29 x30 x31 x32 x33 x34 x35 x36 x37 x38 x39 x40 x41 x42 x43 x44 x45 x46 x47 x48 x49 x50 x51 x52 x53 x54 x55 x56 x57 x58 x59 x60 x61 x62 x63 x64 x65 x66 x67 x68 x69 x70 x71 x72 x73 x74 x75 x76 x77 x78 x79 x80 x81 x82 x83 x84 x85 x86 x87 x88 x89 x90 x91 x92 x93 x94 x95 x96 x97 x98 x99 x100 x101 x102 x103 x104 x105 x106 x107 x108 x109 x110 x111 x112 x113 x114 x115 x116 x117 x118 x119 x120 x121 x122 x123 x124 x125 x126 x127 x128 x129 x130 x131 x132 x133 x134 x135 x136 x137 x138 x139 x140 x141 x142 x143 x144 x145 x146 x147 x148 x149 x150 x151 x152 x153 x154 x155 x156 x157 x158 x159 x160 x161 x162 x163 x164 x165 x166 x167 x168 x169 x170 x171 x172 x173 x174 x175 x176 x177 x178 x179 x180 x181 x182 x183 x184 x185 x186 x187 x188 x189 x190 x191 x192 x193 x194 x195 x196 x197 x198 x199 x200 x201 x202 x203 x204 x205 x206 x207 x208 x209 x210 x211 x212 x213 x214 x215 x216 x217 x218 x219 x220 x221 x222 x223 x224 x225 x226 x227 x228 x229 x230 x231 x232 x233 x234 x235 x236 x237 x238 x239 x240 x241 x242 x243 x244 x245 x246 x247 x248 x249 x250 x251 x252 x253 x254 x255 x256 x257 x258 x259 x260 x261 x262 x263 x264 x265 x266 x267 x268 x269 x270 x271 x272 x273 x274 x275 x276 x277 x278 x279 x280 x281 x282 x283 x284 x285 x286 x287 x288 x289 x290 x291 x292 x293 i k a wr → Code.rounds Tryz.prog ip4Body (IpQ D q hw m f df w u7 u8 u10 x3 x4 x5 x6 x7 x8 x9 x10 x11 x12 x13 x14 x15 x16 x17 x18 x19 x20 x21 x22 x23 x24 x25 x26 x27 x28 x29 x30 x31 x32 x33 x34 x35 x36 x37 x38 x39 x40 x41 x42 x43 x44 x45 x46 x47 x48 x49 x50 x51 x52 x53 x54 x55 x56 x57 x58 x59 x60 x61 x62 x63 x64 x65 x66 x67 x68 x69 x70 x71 x72 x73 x74 x75 x76 x77 x78 x79 x80 x81 x82 x83 x84 x85 x86 x87 x88 x89 x90 x91 x92 x93 x94 x95 x96 x97 x98 x99 x100 x101 x102 x103 x104 x105 x106 x107 x108 x109 x110 x111 x112 x113 x114 x115 x116 x117 x118 x119 x120 x121 x122 x123 x124 x125 x126 x127 x128 x129 x130 x131 x132 x133 x134 x135 x136 x137 x138 x139 x140 x141 x142 x143 x144 x145 x146 x147 x148 x149 x150 x151 x152 x153 x154 x155 x156 x157 x158 x159 x160 x161 x162 x163 x164 x165 x166 x167 x168 x169 x170 x171 x172 x173 x174 x175 x176 x177 x178 x179 x180 x181 x182 x183 x184 x185 x186 x187 x188 x189 x190 x191 x192 x193 x194 x195 x196 x197 x198 x199 x200 x201 x202 x203 x204 x205 x206 x207 x208 x209 x210 x211 x212 x213 x214 x215 x216 x217 x218 x219 x220 x221 x222 x223 x224 x225 x226 x227 x228 x229 x230 x231 x232 x233 x234 x235 x236 x237 x238 x239 x240 x241 x242 x243 x244 x245 x246 x247 x248 x249 x250 x251 x252 x253 x254 x255 x256 x257 x258 x259 x260 x261 x262 x263 x264 x265 x266 x267 x268 x269 x270 x271 x272 x273 x274 x275 x276 x277 x278 x279 x280 x281 x282 x283 x284 x285 x286 x287 x288 x289 x290 x291 x292 x293) N a wr := by
  induction hwf with
  | done i h1 =>
    refine ⟨0 + 1, fun k a wr hs => ?_⟩
    rw [rounds_succ]
    exact ip4DoneS D q hw m f df w u7 u8 u10 n wr x3 x4 x5 x6 x7 x8 x9 x10 x11 x12 x13 x14 x15 x16 x17 x18 x19 x20 x21 x22 x23 x24 x25 x26 x27 x28 x29 x30 x31 x32 x33 x34 x35 x36 x37 x38 x39 x40 x41 x42 x43 x44 x45 x46 x47 x48 x49 x50 x51 x52 x53 x54 x55 x56 x57 x58 x59 x60 x61 x62 x63 x64 x65 x66 x67 x68 x69 x70 x71 x72 x73 x74 x75 x76 x77 x78 x79 x80 x81 x82 x83 x84 x85 x86 x87 x88 x89 x90 x91 x92 x93 x94 x95 x96 x97 x98 x99 x100 x101 x102 x103 x104 x105 x106 x107 x108 x109 x110 x111 x112 x113 x114 x115 x116 x117 x118 x119 x120 x121 x122 x123 x124 x125 x126 x127 x128 x129 x130 x131 x132 x133 x134 x135 x136 x137 x138 x139 x140 x141 x142 x143 x144 x145 x146 x147 x148 x149 x150 x151 x152 x153 x154 x155 x156 x157 x158 x159 x160 x161 x162 x163 x164 x165 x166 x167 x168 x169 x170 x171 x172 x173 x174 x175 x176 x177 x178 x179 x180 x181 x182 x183 x184 x185 x186 x187 x188 x189 x190 x191 x192 x193 x194 x195 x196 x197 x198 x199 x200 x201 x202 x203 x204 x205 x206 x207 x208 x209 x210 x211 x212 x213 x214 x215 x216 x217 x218 x219 x220 x221 x222 x223 x224 x225 x226 x227 x228 x229 x230 x231 x232 x233 x234 x235 x236 x237 x238 x239 x240 x241 x242 x243 x244 x245 x246 x247 x248 x249 x250 x251 x252 x253 x254 x255 x256 x257 x258 x259 x260 x261 x262 x263 x264 x265 x266 x267 x268 x269 x270 x271 x272 x273 x274 x275 x276 x277 x278 x279 x280 x281 x282 x283 x284 x285 x286 x287 x288 x289 x290 x291 x292 x293 _ hB hf h5 h15 hl _ k a hs h1
  | stop i hlt hc =>
    refine ⟨0 + 1, fun k a wr hs => ?_⟩
    rw [rounds_succ]
    exact ip4StopS D q hw m f df w u7 u8 u10 n wr x3 x4 x5 x6 x7 x8 x9 x10 x11 x12 x13 x14 x15 x16 x17 x18 x19 x20 x21 x22 x23 x24 x25 x26 x27 x28 x29 x30 x31 x32 x33 x34 x35 x36 x37 x38 x39 x40 x41 x42 x43 x44 x45 x46 x47 x48 x49 x50 x51 x52 x53 x54 x55 x56 x57 x58 x59 x60 x61 x62 x63 x64 x65 x66 x67 x68 x69 x70 x71 x72 x73 x74 x75 x76 x77 x78 x79 x80 x81 x82 x83 x84 x85 x86 x87 x88 x89 x90 x91 x92 x93 x94 x95 x96 x97 x98 x99 x100 x101 x102 x103 x104 x105 x106 x107 x108 x109 x110 x111 x112 x113 x114 x115 x116 x117 x118 x119 x120 x121 x122 x123 x124 x125 x126 x127 x128 x129 x130 x131 x132 x133 x134 x135 x136 x137 x138 x139 x140 x141 x142 x143 x144 x145 x146 x147 x148 x149 x150 x151 x152 x153 x154 x155 x156 x157 x158 x159 x160 x161 x162 x163 x164 x165 x166 x167 x168 x169 x170 x171 x172 x173 x174 x175 x176 x177 x178 x179 x180 x181 x182 x183 x184 x185 x186 x187 x188 x189 x190 x191 x192 x193 x194 x195 x196 x197 x198 x199 x200 x201 x202 x203 x204 x205 x206 x207 x208 x209 x210 x211 x212 x213 x214 x215 x216 x217 x218 x219 x220 x221 x222 x223 x224 x225 x226 x227 x228 x229 x230 x231 x232 x233 x234 x235 x236 x237 x238 x239 x240 x241 x242 x243 x244 x245 x246 x247 x248 x249 x250 x251 x252 x253 x254 x255 x256 x257 x258 x259 x260 x261 x262 x263 x264 x265 x266 x267 x268 x269 x270 x271 x272 x273 x274 x275 x276 x277 x278 x279 x280 x281 x282 x283 x284 x285 x286 x287 x288 x289 x290 x291 x292 x293 _ hB hf h5 h15 hl _ k a hs hlt hc
  | one i hlt hc r ih =>
    obtain ⟨N, hN⟩ := ih
    refine ⟨N + 1, fun k a wr hs => ?_⟩
    rw [rounds_succ]
    exact ip4OneS D q hw m f df w u7 u8 u10 n wr x3 x4 x5 x6 x7 x8 x9 x10 x11 x12 x13 x14 x15 x16 x17 x18 x19 x20 x21 x22 x23 x24 x25 x26 x27 x28 x29 x30 x31 x32 x33 x34 x35 x36 x37 x38 x39 x40 x41 x42 x43 x44 x45 x46 x47 x48 x49 x50 x51 x52 x53 x54 x55 x56 x57 x58 x59 x60 x61 x62 x63 x64 x65 x66 x67 x68 x69 x70 x71 x72 x73 x74 x75 x76 x77 x78 x79 x80 x81 x82 x83 x84 x85 x86 x87 x88 x89 x90 x91 x92 x93 x94 x95 x96 x97 x98 x99 x100 x101 x102 x103 x104 x105 x106 x107 x108 x109 x110 x111 x112 x113 x114 x115 x116 x117 x118 x119 x120 x121 x122 x123 x124 x125 x126 x127 x128 x129 x130 x131 x132 x133 x134 x135 x136 x137 x138 x139 x140 x141 x142 x143 x144 x145 x146 x147 x148 x149 x150 x151 x152 x153 x154 x155 x156 x157 x158 x159 x160 x161 x162 x163 x164 x165 x166 x167 x168 x169 x170 x171 x172 x173 x174 x175 x176 x177 x178 x179 x180 x181 x182 x183 x184 x185 x186 x187 x188 x189 x190 x191 x192 x193 x194 x195 x196 x197 x198 x199 x200 x201 x202 x203 x204 x205 x206 x207 x208 x209 x210 x211 x212 x213 x214 x215 x216 x217 x218 x219 x220 x221 x222 x223 x224 x225 x226 x227 x228 x229 x230 x231 x232 x233 x234 x235 x236 x237 x238 x239 x240 x241 x242 x243 x244 x245 x246 x247 x248 x249 x250 x251 x252 x253 x254 x255 x256 x257 x258 x259 x260 x261 x262 x263 x264 x265 x266 x267 x268 x269 x270 x271 x272 x273 x274 x275 x276 x277 x278 x279 x280 x281 x282 x283 x284 x285 x286 x287 x288 x289 x290 x291 x292 x293 _ hB hf h5 h15 hl _ k a hs hlt hc (Lib.hid (fun k a' w' h => hN _ a' w' h))
  | more i h1 h0 h00 h2 h3 r ih =>
    obtain ⟨N, hN⟩ := ih
    refine ⟨N + 1, fun k a wr hs => ?_⟩
    rw [rounds_succ]
    exact ip4MoreS D q hw m f df w u7 u8 u10 n wr x3 x4 x5 x6 x7 x8 x9 x10 x11 x12 x13 x14 x15 x16 x17 x18 x19 x20 x21 x22 x23 x24 x25 x26 x27 x28 x29 x30 x31 x32 x33 x34 x35 x36 x37 x38 x39 x40 x41 x42 x43 x44 x45 x46 x47 x48 x49 x50 x51 x52 x53 x54 x55 x56 x57 x58 x59 x60 x61 x62 x63 x64 x65 x66 x67 x68 x69 x70 x71 x72 x73 x74 x75 x76 x77 x78 x79 x80 x81 x82 x83 x84 x85 x86 x87 x88 x89 x90 x91 x92 x93 x94 x95 x96 x97 x98 x99 x100 x101 x102 x103 x104 x105 x106 x107 x108 x109 x110 x111 x112 x113 x114 x115 x116 x117 x118 x119 x120 x121 x122 x123 x124 x125 x126 x127 x128 x129 x130 x131 x132 x133 x134 x135 x136 x137 x138 x139 x140 x141 x142 x143 x144 x145 x146 x147 x148 x149 x150 x151 x152 x153 x154 x155 x156 x157 x158 x159 x160 x161 x162 x163 x164 x165 x166 x167 x168 x169 x170 x171 x172 x173 x174 x175 x176 x177 x178 x179 x180 x181 x182 x183 x184 x185 x186 x187 x188 x189 x190 x191 x192 x193 x194 x195 x196 x197 x198 x199 x200 x201 x202 x203 x204 x205 x206 x207 x208 x209 x210 x211 x212 x213 x214 x215 x216 x217 x218 x219 x220 x221 x222 x223 x224 x225 x226 x227 x228 x229 x230 x231 x232 x233 x234 x235 x236 x237 x238 x239 x240 x241 x242 x243 x244 x245 x246 x247 x248 x249 x250 x251 x252 x253 x254 x255 x256 x257 x258 x259 x260 x261 x262 x263 x264 x265 x266 x267 x268 x269 x270 x271 x272 x273 x274 x275 x276 x277 x278 x279 x280 x281 x282 x283 x284 x285 x286 x287 x288 x289 x290 x291 x292 x293 _ hB hf h5 h15 hl _ k a hs (by omega) h0 h00 h2 h1 h3 (Lib.hid (fun k a' w' h => hN _ a' w' h))
set_option maxRecDepth 1000000 in
set_option maxHeartbeats 4000000 in
theorem ip4Loop (D q hw m : Nat) (f : Nat → Nat) (df : Value) (w : World) (u7 u8 u10 : Value) (n C0 : Nat) (A0 : Option Addr) (w0 : World) (x3 x4 x5 x6 x7 x8 x9 x10 x11 x12 x13 x14 x15 x16 x17 x18 x19 x20 x21 x22 x23 x24 x25 x26 x27 x28 x29 x30 x31 x32 x33 x34 x35 x36 x37 x38 x39 x40 x41 x42 x43 x44 x45 x46 x47 x48 x49 x50 x51 x52 x53 x54 x55 x56 x57 x58 x59 x60 x61 x62 x63 x64 x65 x66 x67 x68 x69 x70 x71 x72 x73 x74 x75 x76 x77 x78 x79 x80 x81 x82 x83 x84 x85 x86 x87 x88 x89 x90 x91 x92 x93 x94 x95 x96 x97 x98 x99 x100 x101 x102 x103 x104 x105 x106 x107 x108 x109 x110 x111 x112 x113 x114 x115 x116 x117 x118 x119 x120 x121 x122 x123 x124 x125 x126 x127 x128 x129 x130 x131 x132 x133 x134 x135 x136 x137 x138 x139 x140 x141 x142 x143 x144 x145 x146 x147 x148 x149 x150 x151 x152 x153 x154 x155 x156 x157 x158 x159 x160 x161 x162 x163 x164 x165 x166 x167 x168 x169 x170 x171 x172 x173 x174 x175 x176 x177 x178 x179 x180 x181 x182 x183 x184 x185 x186 x187 x188 x189 x190 x191 x192 x193 x194 x195 x196 x197 x198 x199 x200 x201 x202 x203 x204 x205 x206 x207 x208 x209 x210 x211 x212 x213 x214 x215 x216 x217 x218 x219 x220 x221 x222 x223 x224 x225 x226 x227 x228 x229 x230 x231 x232 x233 x234 x235 x236 x237 x238 x239 x240 x241 x242 x243 x244 x245 x246 x247 x248 x249 x250 x251 x252 x253 x254 x255 x256 x257 x258 x259 x260 x261 x262 x263 x264 x265 x266 x267 x268 x269 x270 x271 x272 x273 x274 x275 x276 x277 x278 x279 x280 x281 x282 x283 x284 x285 x286 x287 x288 x289 x290 x291 x292 x293 : Value) (hB : Byt w D q f n) (hf : IsB f) (h5 : 5 ≤ hw) (h15 : hw ≤ 15) (hl : hw * 4 ≤ n)
    (hC0 : hw * 4 - 20 ≤ C0) (hm0 : C0 ≤ maxLen) (hA0 : 0 < hw * 4 - 20 → A0 = some ⟨D, q + 20, none⟩) (hwf : WF 3 (fun i => f (20 + i)) (hw * 4 - 20) 0)
    (hL0 : Laid w w0 185 (IpH D q hw m u7 u8 u10)) (h14 : w0.cell? ⟨w.heap.size, 14, none⟩ = some (.slice none 0 0)) :
    Code.wp Tryz.prog (Code.loop ip4Body) (IpQ D q hw m f df w u7 u8 u10 x3 x4 x5 x6 x7 x8 x9 x10 x11 x12 x13 x14 x15 x16 x17 x18 x19 x20 x21 x22 x23 x24 x25 x26 x27 x28 x29 x30 x31 x32 x33 x34 x35 x36 x37 x38 x39 x40 x41 x42 x43 x44 x45 x46 x47 x48 x49 x50 x51 x52 x53 x54 x55 x56 x57 x58 x59 x60 x61 x62 x63 x64 x65 x66 x67 x68 x69 x70 x71 x72 x73 x74 x75 x76 x77 x78 x79 x80 x81 x82 x83 x84 x85 x86 x87 x88 x89 x90 x91 x92 x93 x94 x95 x96 x97 x98 x99 x100 x101 x102 x103 x104 x105 x106 x107 x108 x109 x110 x111 x112 x113 x114 x115 x116 x117 x118 x119 x120 x121 x122 x123 x124 x125 x126 x127 x128 x129 x130 x131 x132 x133 x134 x135 x136 x137 x138 x139 x140 x141 x142 x143 x144 x145 x146 x147 x148 x149 x150 x151 x152 x153 x154 x155 x156 x157 x158 x159 x160 x161 x162 x163 x164 x165 x166 x167 x168 x169 x170 x171 x172 x173 x174 x175 x176 x177 x178 x179 x180 x181 x182 x183 x184 x185 x186 x187 x188 x189 x190 x191 x192 x193 x194 x195 x196 x197 x198 x199 x200 x201 x202 x203 x204 x205 x206 x207 x208 x209 x210 x211 x212 x213 x214 x215 x216 x217 x218 x219 x220 x221 x222 x223 x224 x225 x226 x227 x228 x229 x230 x231 x232 x233 x234 x235 x236 x237 x238 x239 x240 x241 x242 x243 x244 x245 x246 x247 x248 x249 x250 x251 x252 x253 x254 x255 x256 x257 x258 x259 x260 x261 x262 x263 x264 x265 x266 x267 x268 x269 x270 x271 x272 x273 x274 x275 x276 x277 x278 x279 x280 x281 x282 x283 x284 x285 x286 x287 x288 x289 x290 x291 x292 x293) ⟨List.toArray (.pointer (some ⟨w.heap.size, 0, none⟩) :: .slice A0 (hw * 4 - 20) C0 :: df :: x3 :: x4 :: x5 :: x6 :: x7 :: x8 :: x9 :: x10 :: x11 :: x12 :: x13 :: x14 :: x15 :: x16 :: x17 :: x18 :: x19 :: x20 :: x21 :: x22 :: x23 :: x24 :: x25 :: x26 :: x27 :: x28 :: x29 :: x30 :: x31 :: x32 :: x33 :: x34 :: x35 :: x36 :: x37 :: x38 :: x39 :: x40 :: x41 :: x42 :: x43 :: x44 :: x45 :: x46 :: x47 :: x48 :: x49 :: x50 :: x51 :: x52 :: x53 :: x54 :: x55 :: x56 :: x57 :: x58 :: x59 :: x60 :: x61 :: x62 :: x63 :: x64 :: x65 :: x66 :: x67 :: x68 :: x69 :: x70 :: x71 :: x72 :: x73 :: x74 :: x75 :: x76 :: x77 :: x78 :: x79 :: x80 :: x81 :: x82 :: x83 :: x84 :: x85 :: x86 :: x87 :: x88 :: x89 :: x90 :: x91 :: x92 :: x93 :: x94 :: x95 :: x96 :: x97 :: x98 :: x99 :: x100 :: x101 :: x102 :: x103 :: x104 :: x105 :: x106 :: x107 :: x108 :: x109 :: x110 :: x111 :: x112 :: x113 :: x114 :: x115 :: x116 :: x117 :: x118 :: x119 :: x120 :: x121 :: x122 :: x123 :: x124 :: x125 :: x126 :: x127 :: x128 :: x129 :: x130 :: x131 :: x132 :: x133 :: x134 :: x135 :: x136 :: x137 :: x138 :: x139 :: x140 :: x141 :: x142 :: x143 :: x144 :: x145 :: x146 :: x147 :: x148 :: x149 :: x150 :: x151 :: x152 :: x153 :: x154 :: x155 :: x156 :: x157 :: x158 :: x159 :: x160 :: x161 :: x162 :: x163 :: x164 :: x165 :: x166 :: x167 :: x168 :: x169 :: x170 :: x171 :: x172 :: x173 :: x174 :: x175 :: x176 :: x177 :: x178 :: x179 :: x180 :: x181 :: x182 :: x183 :: x184 :: x185 :: x186 :: x187 :: x188 :: x189 :: x190 :: x191 :: x192 :: x193 :: x194 :: x195 :: x196 :: x197 :: x198 :: x199 :: x200 :: x201 :: x202 :: x203 :: x204 :: x205 :: x206 :: x207 :: x208 :: x209 :: x210 :: x211 :: x212 :: x213 :: x214 :: x215 :: x216 :: x217 :: x218 :: x219 :: x220 :: x221 :: x222 :: x223 :: x224 :: x225 :: x226 :: x227 :: x228 :: x229 :: x230 :: x231 :: x232 :: x233 :: x234 :: x235 :: x236 :: x237 :: x238 :: x239 :: x240 :: x241 :: x242 :: x243 :: x244 :: x245 :: x246 :: x247 :: x248 :: x249 :: x250 :: x251 :: x252 :: x253 :: x254 :: x255 :: x256 :: x257 :: x258 :: x259 :: x260 :: x261 :: x262 :: x263 :: x264 :: x265 :: x266 :: x267 :: x268 :: x269 :: x270 :: x271 :: x272 :: x273 :: x274 :: x275 :: x276 :: x277 :: x278 :: x279 :: x280 :: x281 :: x282 :: x283 :: x284 :: x285 :: x286 :: x287 :: x288 :: x289 :: x290 :: x291 :: x292 :: x293 :: []), []⟩ w0 := by
  obtain ⟨N, hN⟩ := ip4Rounds D q hw m f df w u7 u8 u10 n x3 x4 x5 x6 x7 x8 x9 x10 x11 x12 x13 x14 x15 x16 x17 x18 x19 x20 x21 x22 x23 x24 x25 x26 x27 x28 x29 x30 x31 x32 x33 x34 x35 x36 x37 x38 x39 x40 x41 x42 x43 x44 x45 x46 x47 x48 x49 x50 x51 x52 x53 x54 x55 x56 x57 x58 x59 x60 x61 x62 x63 x64 x65 x66 x67 x68 x69 x70 x71 x72 x73 x74 x75 x76 x77 x78 x79 x80 x81 x82 x83 x84 x85 x86 x87 x88 x89 x90 x91 x92 x93 x94 x95 x96 x97 x98 x99 x100 x101 x102 x103 x104 x105 x106 x107 x108 x109 x110 x111 x112 x113 x114 x115 x116 x117 x118 x119 x120 x121 x122 x123 x124 x125 x126 x127 x128 x129 x130 x131 x132 x133 x134 x135 x136 x137 x138 x139 x140 x141 x142 x143 x144 x145 x146 x147 x148 x149 x150 x151 x152 x153 x154 x155 x156 x157 x158 x159 x160 x161 x162 x163 x164 x165 x166 x167 x168 x169 x170 x171 x172 x173 x174 x175 x176 x177 x178 x179 x180 x181 x182 x183 x184 x185 x186 x187 x188 x189 x190 x191 x192 x193 x194 x195 x196 x197 x198 x199 x200 x201 x202 x203 x204 x205 x206 x207 x208 x209 x210 x211 x212 x213 x214 x215 x216 x217 x218 x219 x220 x221 x222 x223 x224 x225 x226 x227 x228 x229 x230 x231 x232 x233 x234 x235 x236 x237 x238 x239 x240 x241 x242 x243 x244 x245 x246 x247 x248 x249 x250 x251 x252 x253 x254 x255 x256 x257 x258 x259 x260 x261 x262 x263 x264 x265 x266 x267 x268 x269 x270 x271 x272 x273 x274 x275 x276 x277 x278 x279 x280 x281 x282 x283 x284 x285 x286 x287 x288 x289 x290 x291 x292 x293 hB hf h5 h15 hl 0 hwf
  refine wp_loop_rounds N (hN 0 _ _ ⟨C0, A0, _, [], _, _, _, _, _, _, _, _, _, _, _, _, _, _, _, _, _, _, _, _, _, _, _, _, _, _, _, _, _, _, _, _, _, _, _, _, _, _, _, _, _, _, _, _, _, _, _, _, _, _, _, _, _, _, _, _, _, _, _, _, _, _, _, _, _, _, _, _, _, _, _, _, _, _, _, _, _, _, _, _, _, _, _, _, _, _, _, _, _, _, _, _, _, _, _, by rw [Nat.sub_zero], Nat.zero_le _, hC0, hm0, hA0, Nat.le_refl _, Lib.hid hL0, h14, Lib.hid (World.ownsRow_nil _ _ _ _)⟩)
end Go.Proofs.YtecgkcofmphaiaaGreatDoor.Gpk
namespace Go.Proofs.YtecgkcofmphaiaaGreatDoor.Gpk
open Go.RowKit
set_option linter.unusedVariables false
set_option maxRecDepth 1000000 in
set_option maxHeartbeats 4000000 in
theorem ip4Da (D q n c h : Nat) (f : Nat → Nat) (df : Value) (z0 z1 z2 z3 z4 z5 z6 z7 z8 z9 z10 z11 z12 z13 z15 : Value) (w : World) (hB : Byt w D q f n) (hf : IsB f) (hc : n ≤ c) (hm : c ≤ maxLen)
    (hn : 20 ≤ n) (hh : f 0 % 16 = h) (h5 : 5 ≤ h) (hl : h * 4 ≤ f 2 * 256 + f 3) (hk : f 2 * 256 + f 3 < n) (hwf0 : WF 3 (fun i => f (20 + i)) (h * 4 - 20) 0) :
    Calls Tryz.prog 120 #[.pointer (some ⟨w.heap.size, 0, none⟩), .slice (some ⟨D, q, none⟩) n c, df] (w.alloc (.cells #[z0, z1, z2, z3, z4, z5, z6, z7, z8, z9, z10, z11, z12, z13, .slice none 0 0, z15] 185)) fun e w' =>
      e = .returned .nilIface ∧ Laid w w' 185 (IpH D q h (f 2 * 256 + f 3 - h * 4) (.int .u8 ((f 6 * 256 + f 7) / 8192 : Nat)) (.int .u16 (bits .and .u16 ((f 6 * 256 + f 7 : Nat) : Int) 8191)) (.int .u8 (f 9 : Nat))) := by
  have hm' := hm
  unfold maxLen at hm'
  have hD := hB.lt (by omega)
  have h15 : h ≤ 15 := by omega
  have hih : bits .and .u8 ((f 0 : Nat) : Int) 15 = (h : Int) := by rw [u8_and15 (x := ((f 0 : Nat) : Int)) (by omega) (by have := hf 0; omega)]; omega
  have HH := Lib.hid hh
  clear hh
  have b2 := hf 2
  have b3 := hf 3
  have b4 := hf 4
  have b5 := hf 5
  have b6 := hf 6
  have b7 := hf 7
  have b0 := hf 0
  have b9 := hf 9
  have b10 := hf 10
  have b11 := hf 11
  have c0 := byt_past0 hB (by omega)
  have c1 := byt_past hB 1 (by omega)
  have c2 := byt_past hB 2 (by omega)
  have c3 := byt_past hB 3 (by omega)
  have c4 := byt_past hB 4 (by omega)
  have c5 := byt_past hB 5 (by omega)
  have c6 := byt_past hB 6 (by omega)
  have c7 := byt_past hB 7 (by omega)
  have c8 := byt_past hB 8 (by omega)
  have c9 := byt_past hB 9 (by omega)
  have c10 := byt_past hB 10 (by omega)
  have c11 := byt_past hB 11 (by omega)
  go_enter Tryz.func120, Tryz.ntmps120
  go_wp2_with fail
  refine (be16 _ _ _ (f 6) (f 7) _ b6 b7 (by first | exact c6 _ | (simp only [World.cell?_drewN]; exact c6 _)) (by first | exact c7 _ | (simp only [World.cell?_drewN]; exact c7 _))).mono ?_; rintro e w' ⟨rfl, k, rfl⟩
  go_wp2_with fail
  refine (be16 _ _ _ (f 2) (f 3) _ b2 b3 (by first | exact c2 _ | (simp only [World.cell?_drewN]; exact c2 _)) (by first | exact c3 _ | (simp only [World.cell?_drewN]; exact c3 _))).mono ?_; rintro e w' ⟨rfl, k, rfl⟩
  go_wp2_with fail
  refine (be16 _ _ _ (f 4) (f 5) _ b4 b5 (by first | exact c4 _ | (simp only [World.cell?_drewN]; exact c4 _)) (by first | exact c5 _ | (simp only [World.cell?_drewN]; exact c5 _))).mono ?_; rintro e w' ⟨rfl, k, rfl⟩
  go_wp2_with fail
  refine (be16 _ _ _ (f 10) (f 11) _ b10 b11 (by first | exact c10 _ | (simp only [World.cell?_drewN]; exact c10 _)) (by first | exact c11 _ | (simp only [World.cell?_drewN]; exact c11 _))).mono ?_; rintro e w' ⟨rfl, k, rfl⟩
  go_wp2_with fail
  go_region
  go_wp2_with fail
  have HW := Lib.hid hwf0
  clear hwf0
  change Code.wp Tryz.prog (Code.loop ip4Body) _ _ _
  refine Code.wp_mono ?fin (ip4Loop D q h (f 2 * 256 + f 3 - h * 4) f df w (.int .u8 ((f 6 * 256 + f 7) / 8192 : Nat)) (.int .u16 (bits .and .u16 ((f 6 * 256 + f 7 : Nat) : Int) 8191)) (.int .u8 (f 9 : Nat)) n _ _ _ _ _ _ _ _ _ _ _ _ _ _ _ _ _ _ _ _ _ _ _ _ _ _ _ _ _ _ _ _ _ _ _ _ _ _ _ _ _ _ _ _ _ _ _ _ _ _ _ _ _ _ _ _ _ _ _ _ _ _ _ _ _ _ _ _ _ _ _ _ _ _ _ _ _ _ _ _ _ _ _ _ _ _ _ _ _ _ _ _ _ _ _ _ _ _ _ _ _ _ _ _ _ _ _ _ _ _ _ _ _ _ _ _ _ _ _ _ _ _ _ _ _ _ _ _ _ _ _ _ _ _ _ _ _ _ _ _ _ _ _ _ _ _ _ _ _ _ _ _ _ _ _ _ _ _ _ _ _ _ _ _ _ _ _ _ _ _ _ _ _ _ _ _ _ _ _ _ _ _ _ _ _ _ _ _ _ _ _ _ _ _ _ _ _ _ _ _ _ _ _ _ _ _ _ _ _ _ _ _ _ _ _ _ _ _ _ _ _ _ _ _ _ _ _ _ _ _ _ _ _ _ _ _ _ _ _ _ _ _ _ _ _ _ _ _ _ _ _ _ _ _ _ _ _ _ _ _ _ _ _ _ _ _ _ _ _ _ _ _ _ _ _ _ _ _ _ _ _ _ _ _ _ _ _ _ _ _ _ _ _ _ hB hf h5 h15 (by omega) ?c1 ?c2 ?c3 HW.out ?c4 ?c5)
  case c1 => omega
  case c2 => omega
  case c3 => exact fun hh3 => by first | rfl | omega
  case c4 => exact Laid.mk _ _ _ _ _ ⟨⟨rfl, ⟨_, rfl, _, _, rfl, by omega, by omega, fun _ => rfl⟩, ⟨_, rfl, _, _, rfl, by omega, by omega, fun h => by first | rfl | omega | (rw [if_neg (by omega)])⟩⟩, rfl, rfl, rfl⟩
  case c5 => exact (cell_of_row _ _ _ _ 185 (0, 0) (by rw [World.heap_drewN]; exact heap_alloc_new w _)).trans rfl
  case fin =>
    rintro (_ | id | l | _ | ch | _) a w1 hq
    · exact (show False from hq).elim
    · rcases id with _ | id
      · obtain ⟨h1, h2, hL⟩ := hq
        obtain ⟨tm, df'⟩ := a
        simp only at h1 h2
        subst h1
        have HL := Lib.hid hL
        clear hL
        go_wp2
        go_ret
        exact ⟨by simp [h2], HL.out⟩
      · exact (show False from hq).elim
    · exact (show False from hq).elim
    · obtain ⟨h1, h2, hL⟩ := hq
      obtain ⟨tm, df'⟩ := a
      simp only at h1 h2
      subst h1
      have HL := Lib.hid hL
      clear hL
      go_wp2
      go_ret
      exact ⟨by simp [h2], HL.out⟩
    · exact (show False from hq).elim
    · exact (show False from hq).elim
end Go.Proofs.YtecgkcofmphaiaaGreatDoor.Gpk
namespace Go.Proofs.YtecgkcofmphaiaaGreatDoor.Gpk
open Go.RowKit
set_option linter.unusedVariables false
set_option maxRecDepth 1000000 in
set_option maxHeartbeats 4000000 in
theorem ip4Db (D q n c ihl : Nat) (f : Nat → Nat) (df : Value) (z0 z1 z2 z3 z4 z5 z6 z7 z8 z9 z10 z11 z12 z13 z15 : Value) (w : World) (hB : Byt w D q f n) (hf : IsB f) (hc : n ≤ c) (hm : c ≤ maxLen)
    (hn : 20 ≤ n) (hh : f 0 % 16 = ihl) (h5 : 5 ≤ ihl) (hl : ihl * 4 ≤ f 2 * 256 + f 3) (hk : f 2 * 256 + f 3 = n) (hwf0 : WF 3 (fun i => f (20 + i)) (ihl * 4 - 20) 0) :
    Calls Tryz.prog 120 #[.pointer (some ⟨w.heap.size, 0, none⟩), .slice (some ⟨D, q, none⟩) n c, df] (w.alloc (.cells #[z0, z1, z2, z3, z4, z5, z6, z7, z8, z9, z10, z11, z12, z13, .slice none 0 0, z15] 185)) fun e w' =>
      e = .returned .nilIface ∧ Laid w w' 185 (IpH D q ihl (n - ihl * 4) (.int .u8 ((f 6 * 256 + f 7) / 8192 : Nat)) (.int .u16 (bits .and .u16 ((f 6 * 256 + f 7 : Nat) : Int) 8191)) (.int .u8 (f 9 : Nat))) := by
  have hm' := hm
  unfold maxLen at hm'
  have hD := hB.lt (by omega)
  have h15 : ihl ≤ 15 := by omega
  have hih : bits .and .u8 ((f 0 : Nat) : Int) 15 = (ihl : Int) := by rw [u8_and15 (x := ((f 0 : Nat) : Int)) (by omega) (by have := hf 0; omega)]; omega
  have HH := Lib.hid hh
  clear hh
  have b2 := hf 2
  have b3 := hf 3
  have b4 := hf 4
  have b5 := hf 5
  have b6 := hf 6
  have b7 := hf 7
  have b0 := hf 0
  have b9 := hf 9
  have b10 := hf 10
  have b11 := hf 11
  have c0 := byt_past0 hB (by omega)
  have c1 := byt_past hB 1 (by omega)
  have c2 := byt_past hB 2 (by omega)
  have c3 := byt_past hB 3 (by omega)
  have c4 := byt_past hB 4 (by omega)
  have c5 := byt_past hB 5 (by omega)
  have c6 := byt_past hB 6 (by omega)
  have c7 := byt_past hB 7 (by omega)
  have c8 := byt_past hB 8 (by omega)
  have c9 := byt_past hB 9 (by omega)
  have c10 := byt_past hB 10 (by omega)
  have c11 := byt_past hB 11 (by omega)
  go_enter Tryz.func120, Tryz.ntmps120
  go_wp2_with fail
  refine (be16 _ _ _ (f 6) (f 7) _ b6 b7 (by first | exact c6 _ | (simp only [World.cell?_drewN]; exact c6 _)) (by first | exact c7 _ | (simp only [World.cell?_drewN]; exact c7 _))).mono ?_; rintro e w' ⟨rfl, k, rfl⟩
  go_wp2_with fail
  refine (be16 _ _ _ (f 2) (f 3) _ b2 b3 (by first | exact c2 _ | (simp only [World.cell?_drewN]; exact c2 _)) (by first | exact c3 _ | (simp only [World.cell?_drewN]; exact c3 _))).mono ?_; rintro e w' ⟨rfl, k, rfl⟩
  go_wp2_with fail
  refine (be16 _ _ _ (f 4) (f 5) _ b4 b5 (by first | exact c4 _ | (simp only [World.cell?_drewN]; exact c4 _)) (by first | exact c5 _ | (simp only [World.cell?_drewN]; exact c5 _))).mono ?_; rintro e w' ⟨rfl, k, rfl⟩
  go_wp2_with fail
  refine (be16 _ _ _ (f 10) (f 11) _ b10 b11 (by first | exact c10 _ | (simp only [World.cell?_drewN]; exact c10 _)) (by first | exact c11 _ | (simp only [World.cell?_drewN]; exact c11 _))).mono ?_; rintro e w' ⟨rfl, k, rfl⟩
  go_wp2_with fail
  go_region
  go_wp2_with fail
  all_goals have HW := Lib.hid hwf0
  all_goals clear hwf0
  · obtain rfl : ihl = 5 := by omega
    change Code.wp Tryz.prog (Code.loop ip4Body) _ _ _
    refine Code.wp_mono ?fina (ip4Loop D q 5 (n - 5 * 4) f df w (.int .u8 ((f 6 * 256 + f 7) / 8192 : Nat)) (.int .u16 (bits .and .u16 ((f 6 * 256 + f 7 : Nat) : Int) 8191)) (.int .u8 (f 9 : Nat)) n _ _ _ _ _ _ _ _ _ _ _ _ _ _ _ _ _ _ _ _ _ _ _ _ _ _ _ _ _ _ _ _ _ _ _ _ _ _ _ _ _ _ _ _ _ _ _ _ _ _ _ _ _ _ _ _ _ _ _ _ _ _ _ _ _ _ _ _ _ _ _ _ _ _ _ _ _ _ _ _ _ _ _ _ _ _ _ _ _ _ _ _ _ _ _ _ _ _ _ _ _ _ _ _ _ _ _ _ _ _ _ _ _ _ _ _ _ _ _ _ _ _ _ _ _ _ _ _ _ _ _ _ _ _ _ _ _ _ _ _ _ _ _ _ _ _ _ _ _ _ _ _ _ _ _ _ _ _ _ _ _ _ _ _ _ _ _ _ _ _ _ _ _ _ _ _ _ _ _ _ _ _ _ _ _ _ _ _ _ _ _ _ _ _ _ _ _ _ _ _ _ _ _ _ _ _ _ _ _ _ _ _ _ _ _ _ _ _ _ _ _ _ _ _ _ _ _ _ _ _ _ _ _ _ _ _ _ _ _ _ _ _ _ _ _ _ _ _ _ _ _ _ _ _ _ _ _ _ _ _ _ _ _ _ _ _ _ _ _ _ _ _ _ _ _ _ _ _ _ _ _ _ _ _ _ _ _ _ _ _ _ _ _ _ hB hf h5 h15 (by omega) ?c1a ?c2a ?c3a HW.out ?c4a ?c5a)
    case c1a => omega
    case c2a => omega
    case c3a => exact fun hh3 => by first | rfl | omega
    case c4a => exact Laid.mk _ _ _ _ _ ⟨⟨rfl, ⟨_, rfl, _, _, rfl, by omega, by omega, fun _ => rfl⟩, ⟨_, rfl, _, _, rfl, by omega, by omega, fun h => by first | rfl | omega | (rw [if_neg (by omega)])⟩⟩, rfl, rfl, rfl⟩
    case c5a => exact (cell_of_row _ _ _ _ 185 (0, 0) (by rw [World.heap_drewN]; exact heap_alloc_new w _)).trans rfl
    case fina =>
      rintro (_ | id | l | _ | ch | _) a w1 hq
      · exact (show False from hq).elim
      · rcases id with _ | id
        · obtain ⟨h1, h2, hL⟩ := hq
          obtain ⟨tm, df'⟩ := a
          simp only at h1 h2
          subst h1
          have HL := Lib.hid hL
          clear hL
          go_wp2
          go_ret
          exact ⟨by simp [h2], HL.out⟩
        · exact (show False from hq).elim
      · exact (show False from hq).elim
      · obtain ⟨h1, h2, hL⟩ := hq
        obtain ⟨tm, df'⟩ := a
        simp only at h1 h2
        subst h1
        have HL := Lib.hid hL
        clear hL
        go_wp2
        go_ret
        exact ⟨by simp [h2], HL.out⟩
      · exact (show False from hq).elim
      · exact (show False from hq).elim
  · change Code.wp Tryz.prog (Code.loop ip4Body) _ _ _
    refine Code.wp_mono ?finb (ip4Loop D q ihl (n - ihl * 4) f df w (.int .u8 ((f 6 * 256 + f 7) / 8192 : Nat)) (.int .u16 (bits .and .u16 ((f 6 * 256 + f 7 : Nat) : Int) 8191)) (.int .u8 (f 9 : Nat)) n _ _ _ _ _ _ _ _ _ _ _ _ _ _ _ _ _ _ _ _ _ _ _ _ _ _ _ _ _ _ _ _ _ _ _ _ _ _ _ _ _ _ _ _ _ _ _ _ _ _ _ _ _ _ _ _ _ _ _ _ _ _ _ _ _ _ _ _ _ _ _ _ _ _ _ _ _ _ _ _ _ _ _ _ _ _ _ _ _ _ _ _ _ _ _ _ _ _ _ _ _ _ _ _ _ _ _ _ _ _ _ _ _ _ _ _ _ _ _ _ _ _ _ _ _ _ _ _ _ _ _ _ _ _ _ _ _ _ _ _ _ _ _ _ _ _ _ _ _ _ _ _ _ _ _ _ _ _ _ _ _ _ _ _ _ _ _ _ _ _ _ _ _ _ _ _ _ _ _ _ _ _ _ _ _ _ _ _ _ _ _ _ _ _ _ _ _ _ _ _ _ _ _ _ _ _ _ _ _ _ _ _ _ _ _ _ _ _ _ _ _ _ _ _ _ _ _ _ _ _ _ _ _ _ _ _ _ _ _ _ _ _ _ _ _ _ _ _ _ _ _ _ _ _ _ _ _ _ _ _ _ _ _ _ _ _ _ _ _ _ _ _ _ _ _ _ _ _ _ _ _ _ _ _ _ _ _ _ _ _ _ _ _ _ hB hf h5 h15 (by omega) ?c1b ?c2b ?c3b HW.out ?c4b ?c5b)
    case c1b => omega
    case c2b => omega
    case c3b => exact fun hh3 => by first | rfl | omega
    case c4b => exact Laid.mk _ _ _ _ _ ⟨⟨rfl, ⟨_, rfl, _, _, rfl, by omega, by omega, fun _ => rfl⟩, ⟨_, rfl, _, _, rfl, by omega, by omega, fun h => by first | rfl | omega | (rw [if_neg (by omega)])⟩⟩, rfl, rfl, rfl⟩
    case c5b => exact (cell_of_row _ _ _ _ 185 (0, 0) (by rw [World.heap_drewN]; exact heap_alloc_new w _)).trans rfl
    case finb =>
      rintro (_ | id | l | _ | ch | _) a w1 hq
      · exact (show False from hq).elim
      · rcases id with _ | id
        · obtain ⟨h1, h2, hL⟩ := hq
          obtain ⟨tm, df'⟩ := a
          simp only at h1 h2
          subst h1
          have HL := Lib.hid hL
          clear hL
          go_wp2
          go_ret
          exact ⟨by simp [h2], HL.out⟩
        · exact (show False from hq).elim
      · exact (show False from hq).elim
      · obtain ⟨h1, h2, hL⟩ := hq
        obtain ⟨tm, df'⟩ := a
        simp only at h1 h2
        subst h1
        have HL := Lib.hid hL
        clear hL
        go_wp2
        go_ret
        exact ⟨by simp [h2], HL.out⟩
      · exact (show False from hq).elim
      · exact (show False from hq).elim
  · change Code.wp Tryz.prog (Code.loop ip4Body) _ _ _
    refine Code.wp_mono ?finc (ip4Loop D q ihl (n - ihl * 4) f df w (.int .u8 ((f 6 * 256 + f 7) / 8192 : Nat)) (.int .u16 (bits .and .u16 ((f 6 * 256 + f 7 : Nat) : Int) 8191)) (.int .u8 (f 9 : Nat)) n _ _ _ _ _ _ _ _ _ _ _ _ _ _ _ _ _ _ _ _ _ _ _ _ _ _ _ _ _ _ _ _ _ _ _ _ _ _ _ _ _ _ _ _ _ _ _ _ _ _ _ _ _ _ _ _ _ _ _ _ _ _ _ _ _ _ _ _ _ _ _ _ _ _ _ _ _ _ _ _ _ _ _ _ _ _ _ _ _ _ _ _ _ _ _ _ _ _ _ _ _ _ _ _ _ _ _ _ _ _ _ _ _ _ _ _ _ _ _ _ _ _ _ _ _ _ _ _ _ _ _ _ _ _ _ _ _ _ _ _ _ _ _ _ _ _ _ _ _ _ _ _ _ _ _ _ _ _ _ _ _ _ _ _ _ _ _ _ _ _ _ _ _ _ _ _ _ _ _ _ _ _ _ _ _ _ _ _ _ _ _ _ _ _ _ _ _ _ _ _ _ _ _ _ _ _ _ _ _ _ _ _ _ _ _ _ _ _ _ _ _ _ _ _ _ _ _ _ _ _ _ _ _ _ _ _ _ _ _ _ _ _ _ _ _ _ _ _ _ _ _ _ _ _ _ _ _ _ _ _ _ _ _ _ _ _ _ _ _ _ _ _ _ _ _ _ _ _ _ _ _ _ _ _ _ _ _ _ _ _ _ _ _ _ hB hf h5 h15 (by omega) ?c1c ?c2c ?c3c HW.out ?c4c ?c5c)
    case c1c => omega
    case c2c => omega
    case c3c => exact fun hh3 => by first | rfl | omega
    case c4c => exact Laid.mk _ _ _ _ _ ⟨⟨rfl, ⟨_, rfl, _, _, rfl, by omega, by omega, fun _ => rfl⟩, ⟨_, rfl, _, _, rfl, by omega, by omega, fun h => by first | rfl | omega | (rw [if_neg (by omega)])⟩⟩, rfl, rfl, rfl⟩
    case c5c => exact (cell_of_row _ _ _ _ 185 (0, 0) (by rw [World.heap_drewN]; exact heap_alloc_new w _)).trans rfl
    case finc =>
      rintro (_ | id | l | _ | ch | _) a w1 hq
      · exact (show False from hq).elim
      · rcases id with _ | id
        · obtain ⟨h1, h2, hL⟩ := hq
          obtain ⟨tm, df'⟩ := a
          simp only at h1 h2
          subst h1
          have HL := Lib.hid hL
          clear hL
          go_wp2
          go_ret
          exact ⟨by simp [h2], HL.out⟩
        · exact (show False from hq).elim
      · exact (show False from hq).elim
      · obtain ⟨h1, h2, hL⟩ := hq
        obtain ⟨tm, df'⟩ := a
        simp only at h1 h2
        subst h1
        have HL := Lib.hid hL
        clear hL
        go_wp2
        go_ret
        exact ⟨by simp [h2], HL.out⟩
      · exact (show False from hq).elim
      · exact (show False from hq).elim
end Go.Proofs.YtecgkcofmphaiaaGreatDoor.Gpk
namespace Go.Proofs.YtecgkcofmphaiaaGreatDoor.Gpk
open Go.RowKit
theorem ip4D (D q n c : Nat) (f : Nat → Nat) (df : Value) (z0 z1 z2 z3 z4 z5 z6 z7 z8 z9 z10 z11 z12 z13 z15 : Value) (w : World) (hB : Byt w D q f n) (hf : IsB f) (hc : n ≤ c) (hm : c ≤ maxLen)
    (hn : 20 ≤ n) (h5 : 5 ≤ f 0 % 16) (hl : f 0 % 16 * 4 ≤ f 2 * 256 + f 3) (hk : f 2 * 256 + f 3 ≤ n) (hwf0 : WF 3 (fun i => f (20 + i)) (f 0 % 16 * 4 - 20) 0) :
    Calls Tryz.prog 120 #[.pointer (some ⟨w.heap.size, 0, none⟩), .slice (some ⟨D, q, none⟩) n c, df] (w.alloc (.cells #[z0, z1, z2, z3, z4, z5, z6, z7, z8, z9, z10, z11, z12, z13, .slice none 0 0, z15] 185)) fun e w' =>
      e = .returned .nilIface ∧ Laid w w' 185 (IpH D q (f 0 % 16) (f 2 * 256 + f 3 - f 0 % 16 * 4) (.int .u8 ((f 6 * 256 + f 7) / 8192 : Nat)) (.int .u16 (bits .and .u16 ((f 6 * 256 + f 7 : Nat) : Int) 8191)) (.int .u8 (f 9 : Nat))) := by
  rcases Nat.lt_or_eq_of_le hk with hk | hk
  · exact ip4Da D q n c (f 0 % 16) f df z0 z1 z2 z3 z4 z5 z6 z7 z8 z9 z10 z11 z12 z13 z15 w hB hf hc hm hn rfl h5 hl hk hwf0
  · rw [hk]
    exact ip4Db D q n c (f 0 % 16) f df z0 z1 z2 z3 z4 z5 z6 z7 z8 z9 z10 z11 z12 z13 z15 w hB hf hc hm hn rfl h5 hl hk hwf0
end Go.Proofs.YtecgkcofmphaiaaGreatDoor.Gpk
