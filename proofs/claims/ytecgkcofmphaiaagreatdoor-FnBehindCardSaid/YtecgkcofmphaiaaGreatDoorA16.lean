/- A round of the loop over the options of a segment.
   The loop over the options of a segment: its rounds joined. -/
import Derived.Test.YtecgkcofmphaiaaGreatDoorA15
import Derived.LoopN
import Derived.WalkMore
set_option linter.unusedVariables false
set_option linter.unusedSimpArgs false
set_option linter.unnecessarySimpa false
set_option linter.unusedSectionVars false
namespace Go.Proofs.YtecgkcofmphaiaaGreatDoor.Gpk
open Go.RowKit
set_option linter.unusedVariables false
set_option maxRecDepth 1000000 in
set_option maxHeartbeats 4000000 in
theorem tcpMore (D q hw m : Nat) (f : Nat → Nat) (df : Value) (w : World) (n : Nat) (wr : World) (x3 x4 x5 x6 x7 x9 x10 x11 x12 x13 x14 x15 x16 x17 x18 x19 x20 x21 x22 x23 x24 x25 x26 x27 x28 x29 x30 x31 x32 x33 x34 x35 x36 x37 x38 x39 x40 x41 x42 x43 x44 x45 x46 x47 x48 x49 x50 x51 x52 x53 x54 x55 x56 x57 x58 x59 x60 x61 x62 x63 x64 x65 x66 x67 x68 x69 x70 x71 x72 x73 x74 x75 x76 x77 x78 x79 x80 x81 x82 x83 x84 x85 x86 x87 x88 x89 x90 x91 x92 x93 x94 x95 x96 x97 x98 x99 x100 x101 x102 x103 x104 x105 x106 x107 x108 x109 x110 x111 x112 x113 x114 x115 x116 x117 x118 x119 x120 x121 x122 x123 x124 x125 x126 x127 x128 x129 x130 x131 x132 x133 x134 x135 x136 x137 x138 x139 x140 x141 x142 x143 x144 x145 x146 x147 x148 x149 x150 x151 x152 x153 x154 x155 x156 x157 x158 x159 x160 x161 x162 x163 x164 x165 x166 x167 x168 x169 x170 x171 x172 x173 x174 x175 x176 x177 x178 x179 x180 x181 x182 x183 x184 x185 x186 x187 x188 x189 x190 x191 x192 x193 x194 x195 x196 x197 x198 x199 x200 x201 x202 x203 x204 x205 x206 x207 x208 x209 x210 x211 x212 x213 x214 x215 x216 x217 x218 : Value) (R : Act → World → Prop) (hB : Byt w D q f n) (hf : IsB f) (h5 : 5 ≤ hw) (h15 : hw ≤ 15) (hl : hw * 4 ≤ n)
    (y8 y219 y220 y221 y222 y223 y224 y225 y226 y227 y228 y229 y230 y231 y232 y233 y234 y235 y236 y237 y238 y239 y240 y241 y242 y243 y244 y245 y246 y247 y248 y249 y250 y251 y252 y253 y254 y255 y256 y257 y258 y259 y260 y261 y262 y263 y264 y265 y266 y267 y268 y269 y270 y271 y272 y273 y274 y275 y276 y277 y278 y279 y280 y281 y282 y283 y284 y285 y286 y287 y288 y289 y290 y291 y292 y293 y294 y295 y296 y297 y298 y299 y300 y301 y302 y303 y304 y305 y306 y307 y308 V : Value) (i k C : Nat) (A : Option Addr) (hi : i ≤ hw * 4 - 20) (hC : hw * 4 - 20 - i ≤ C) (hCm : C ≤ maxLen) (hA : i < hw * 4 - 20 → A = some ⟨D, q + 20 + i, none⟩) (hki : k ≤ i)
    (HL : Hid (Laid w wr 229 (Hdr D q (hw * 4) m 36))) (hc21 : wr.cell? ⟨w.heap.size, 21, none⟩ = some V) (HO : Hid (Opts w wr V k)) (hlt : i < hw * 4 - 20) (h0 : f (20 + i) ≠ 0) (h00 : f (20 + i) ≠ 1) (h2 : 2 ≤ f (20 + (i + 1))) (h1 : i + 1 < hw * 4 - 20) (h3 : i + f (20 + (i + 1)) ≤ hw * 4 - 20) (HNX : Hid (∀ a' w', TcS D q hw m f df w x3 x4 x5 x6 x7 x9 x10 x11 x12 x13 x14 x15 x16 x17 x18 x19 x20 x21 x22 x23 x24 x25 x26 x27 x28 x29 x30 x31 x32 x33 x34 x35 x36 x37 x38 x39 x40 x41 x42 x43 x44 x45 x46 x47 x48 x49 x50 x51 x52 x53 x54 x55 x56 x57 x58 x59 x60 x61 x62 x63 x64 x65 x66 x67 x68 x69 x70 x71 x72 x73 x74 x75 x76 x77 x78 x79 x80 x81 x82 x83 x84 x85 x86 x87 x88 x89 x90 x91 x92 x93 x94 x95 x96 x97 x98 x99 x100 x101 x102 x103 x104 x105 x106 x107 x108 x109 x110 x111 x112 x113 x114 x115 x116 x117 x118 x119 x120 x121 x122 x123 x124 x125 x126 x127 x128 x129 x130 x131 x132 x133 x134 x135 x136 x137 x138 x139 x140 x141 x142 x143 x144 x145 x146 x147 x148 x149 x150 x151 x152 x153 x154 x155 x156 x157 x158 x159 x160 x161 x162 x163 x164 x165 x166 x167 x168 x169 x170 x171 x172 x173 x174 x175 x176 x177 x178 x179 x180 x181 x182 x183 x184 x185 x186 x187 x188 x189 x190 x191 x192 x193 x194 x195 x196 x197 x198 x199 x200 x201 x202 x203 x204 x205 x206 x207 x208 x209 x210 x211 x212 x213 x214 x215 x216 x217 x218 (i + f (20 + (i + 1))) (k + 1) a' w' → R a' w')) :
    Code.wp Tryz.prog tcpBody (Exit.then R (TcQ D q hw m f df w x3 x4 x5 x6 x7 x9 x10 x11 x12 x13 x14 x15 x16 x17 x18 x19 x20 x21 x22 x23 x24 x25 x26 x27 x28 x29 x30 x31 x32 x33 x34 x35 x36 x37 x38 x39 x40 x41 x42 x43 x44 x45 x46 x47 x48 x49 x50 x51 x52 x53 x54 x55 x56 x57 x58 x59 x60 x61 x62 x63 x64 x65 x66 x67 x68 x69 x70 x71 x72 x73 x74 x75 x76 x77 x78 x79 x80 x81 x82 x83 x84 x85 x86 x87 x88 x89 x90 x91 x92 x93 x94 x95 x96 x97 x98 x99 x100 x101 x102 x103 x104 x105 x106 x107 x108 x109 x110 x111 x112 x113 x114 x115 x116 x117 x118 x119 x120 x121 x122 x123 x124 x125 x126 x127 x128 x129 x130 x131 x132 x133 x134 x135 x136 x137 x138 x139 x140 x141 x142 x143 x144 x145 x146 x147 x148 x149 x150 x151 x152 x153 x154 x155 x156 x157 x158 x159 x160 x161 x162 x163 x164 x165 x166 x167 x168 x169 x170 x171 x172 x173 x174 x175 x176 x177 x178 x179 x180 x181 x182 x183 x184 x185 x186 x187 x188 x189 x190 x191 x192 x193 x194 x195 x196 x197 x198 x199 x200 x201 x202 x203 x204 x205 x206 x207 x208 x209 x210 x211 x212 x213 x214 x215 x216 x217 x218)) ⟨List.toArray (.pointer (some ⟨w.heap.size, 0, none⟩) :: .slice A (hw * 4 - 20 - i) C :: df :: x3 :: x4 :: x5 :: x6 :: x7 :: y8 :: x9 :: x10 :: x11 :: x12 :: x13 :: x14 :: x15 :: x16 :: x17 :: x18 :: x19 :: x20 :: x21 :: x22 :: x23 :: x24 :: x25 :: x26 :: x27 :: x28 :: x29 :: x30 :: x31 :: x32 :: x33 :: x34 :: x35 :: x36 :: x37 :: x38 :: x39 :: x40 :: x41 :: x42 :: x43 :: x44 :: x45 :: x46 :: x47 :: x48 :: x49 :: x50 :: x51 :: x52 :: x53 :: x54 :: x55 :: x56 :: x57 :: x58 :: x59 :: x60 :: x61 :: x62 :: x63 :: x64 :: x65 :: x66 :: x67 :: x68 :: x69 :: x70 :: x71 :: x72 :: x73 :: x74 :: x75 :: x76 :: x77 :: x78 :: x79 :: x80 :: x81 :: x82 :: x83 :: x84 :: x85 :: x86 :: x87 :: x88 :: x89 :: x90 :: x91 :: x92 :: x93 :: x94 :: x95 :: x96 :: x97 :: x98 :: x99 :: x100 :: x101 :: x102 :: x103 :: x104 :: x105 :: x106 :: x107 :: x108 :: x109 :: x110 :: x111 :: x112 :: x113 :: x114 :: x115 :: x116 :: x117 :: x118 :: x119 :: x120 :: x121 :: x122 :: x123 :: x124 :: x125 :: x126 :: x127 :: x128 :: x129 :: x130 :: x131 :: x132 :: x133 :: x134 :: x135 :: x136 :: x137 :: x138 :: x139 :: x140 :: x141 :: x142 :: x143 :: x144 :: x145 :: x146 :: x147 :: x148 :: x149 :: x150 :: x151 :: x152 :: x153 :: x154 :: x155 :: x156 :: x157 :: x158 :: x159 :: x160 :: x161 :: x162 :: x163 :: x164 :: x165 :: x166 :: x167 :: x168 :: x169 :: x170 :: x171 :: x172 :: x173 :: x174 :: x175 :: x176 :: x177 :: x178 :: x179 :: x180 :: x181 :: x182 :: x183 :: x184 :: x185 :: x186 :: x187 :: x188 :: x189 :: x190 :: x191 :: x192 :: x193 :: x194 :: x195 :: x196 :: x197 :: x198 :: x199 :: x200 :: x201 :: x202 :: x203 :: x204 :: x205 :: x206 :: x207 :: x208 :: x209 :: x210 :: x211 :: x212 :: x213 :: x214 :: x215 :: x216 :: x217 :: x218 :: y219 :: y220 :: y221 :: y222 :: y223 :: y224 :: y225 :: y226 :: y227 :: y228 :: y229 :: y230 :: y231 :: y232 :: y233 :: y234 :: y235 :: y236 :: y237 :: y238 :: y239 :: y240 :: y241 :: y242 :: y243 :: y244 :: y245 :: y246 :: y247 :: y248 :: y249 :: y250 :: y251 :: y252 :: y253 :: y254 :: y255 :: y256 :: y257 :: y258 :: y259 :: y260 :: y261 :: y262 :: y263 :: y264 :: y265 :: y266 :: y267 :: y268 :: y269 :: y270 :: y271 :: y272 :: y273 :: y274 :: y275 :: y276 :: y277 :: y278 :: y279 :: y280 :: y281 :: y282 :: y283 :: y284 :: y285 :: y286 :: y287 :: y288 :: y289 :: y290 :: y291 :: y292 :: y293 :: y294 :: y295 :: y296 :: y297 :: y298 :: y299 :: y300 :: y301 :: y302 :: y303 :: y304 :: y305 :: y306 :: y307 :: y308 :: []), []⟩ wr := by
  conv => arg 2; whnf
  have hD := hB.lt (by omega)
  have hCm' := hCm
  unfold maxLen at hCm'
  have hsz := HL.out.lt
  have hf21 := HL.out.unfrozen 21
  have hDr : D < wr.heap.size := by omega
  have hsz_1 : w.heap.size < wr.heap.size + 1 := by omega
  have hDr_1 : D < wr.heap.size + 1 := by omega
  have hA' := hA hlt
  subst hA'
  clear hA
  have bi := hf (20 + i)
  have di : wr.cell? ⟨D, q + 20 + i, none⟩ = some (.int .u8 (f (20 + i) : Nat)) := by
    have := (hB.below HL.out.1 hD).at (20 + i) (by omega)
    rw [← this, Nat.add_assoc]
  have g0 : (((f (20 + i) : Nat) : Int) == 0) = false := by simp; omega
  have g1 : (((f (20 + i) : Nat) : Int) == 1) = false := by simp; omega
  have b1 := hf (20 + (i + 1))
  have e8 : IntKind.i64.wrap ((f (20 + (i + 1)) : Nat) : Int) = (f (20 + (i + 1)) : Nat) := by rw [IntKind.wrap_i64]; omega
  have g2 : ¬ (((f (20 + (i + 1)) : Nat) : Int) < 2) := by omega
  have g3 : ¬ (((hw * 4 - 20 - i : Nat) : Int) < ((f (20 + (i + 1)) : Nat) : Int)) := by omega
  go_wp2_with fail
  all_goals go_region_law ((refine step_append_opts rfl (.tmp 226) (.tmp 231) rfl w (Hdr D q (hw * 4) m 36) (by repeat first | exact HL.out | refine Laid.drewN ?_ _ | refine Laid.alloc ?_ _) (fun cs h => h.size) (fun cs i v hi h => h.set i (by omega) v) V k (by omega) (by repeat first | exact HO.out | refine Opts.drewN ?_ _ | refine Opts.alloc ?_ _) rfl ⟨wr.heap.size, 0, none⟩ 1 (.int .u8 (f (20 + i) : Nat)) (.int .u8 0) (.slice none 0 0) rfl (newsLast _ #[.int .u8 (f (20 + i) : Nat), .int .u8 0, .slice none 0 0] 222 _ _ (by simp)) (by intro u hu; simp at hu; rcases hu with rfl | rfl | rfl <;> rfl) ?_); intro b o' cap w1 hL1 hO1 h31 hbw hsz1; obtain ⟨u21, e21⟩ := hL1.cell 21 36 (by omega) (fun cs h => h.size); have f21 := hL1.unfrozen 21; have hz1' := hL1.lt; have HL1 := Lib.hid hL1; have HO1 := Lib.hid hO1; have H31 := Lib.hid h31; clear hL1 hO1 h31)
  all_goals (obtain ⟨W, hW⟩ : ∃ W, W = w1.setCell ⟨w.heap.size, 21, none⟩ (.slice (some ⟨b, o', none⟩) (k + 1) cap) := ⟨_, rfl⟩)
  all_goals (have HLs : Laid w W 229 (Hdr D q (hw * 4) m 36) := hW ▸ HL1.out.set 21 _ (fun cs h => h.set 21 (by omega) _))
  all_goals (have hOs : Opts w W (.slice (some ⟨b, o', none⟩) (k + 1) cap) (k + 1) := hW ▸ HO1.out.set _ _ _)
  all_goals (have h3s : Opt3 w W b (o' + k * 3) (.int .u8 (f (20 + i) : Nat)) (.int .u8 0) (.slice none 0 0) := hW ▸ H31.out.setLow 21 (by omega) _)
  all_goals (have e21s : W.cell? ⟨w.heap.size, 21, none⟩ = some (.slice (some ⟨b, o', none⟩) (k + 1) cap) := hW ▸ World.cell?_setCell_same _ _ _ e21)
  all_goals (rw [← hW])
  all_goals (clear hW e21 f21 HL1 HO1 H31 hc21)
  all_goals (have dB := hB.below HLs.1 hD)
  all_goals (have k0 := h3s.c0)
  all_goals (have k1 := h3s.c1)
  all_goals (have k2 := h3s.c2)
  all_goals (have fz := fun i => h3s.unfrozen HLs i)
  all_goals (have f22 := HLs.unfrozen 22)
  all_goals (obtain ⟨u22, e22⟩ := HLs.cell 22 36 (by omega) (fun cs h => h.size))
  all_goals (have n0 : IntKind.i64.wrap (((k + 1 : Nat) : Int) - 1) = (k : Int) := by rw [IntKind.wrap_i64]; omega)
  all_goals (have n1 : ((k : Int)).toNat = k := by omega)
  all_goals (have n2 : (0 : Int) ≤ (k : Int) := by omega)
  all_goals (have n3 : (k : Int) < (k : Int) + 1 := by omega)
  all_goals (have d1 : W.cell? ⟨D, q + 20 + i + 1, none⟩ = some (.int .u8 (f (20 + (i + 1)) : Nat)) := by rw [show q + 20 + i + 1 = q + (20 + (i + 1)) from by omega]; exact dB.at (20 + (i + 1)) (by omega))
  all_goals (have n4 : (1 : Int) < ((hw * 4 - 20 - i : Nat) : Int) := by omega)
  all_goals go_wp2_with fail
  all_goals go_quiet (fail)
  all_goals go_wp2_with fail
  all_goals
    refine HNX.out _ _ ?_
    refine ⟨_, _, .slice (some ⟨b, o', none⟩) (k + 1) cap, _, _, _, _, _, _, _, _, _, _, _, _, _, _, _, _, _, _, _, _, _, _, _, _, _, _, _, _, _, _, _, _, _, _, _, _, _, _, _, _, _, _, _, _, _, _, _, _, _, _, _, _, _, _, _, _, _, _, _, _, _, _, _, _, _, _, _, _, _, _, _, _, _, _, _, _, _, _, _, _, _, _, _, _, _, _, _, _, _, _, _, by first | (rw [show hw * 4 - 20 - (i + f (20 + (i + 1))) = hw * 4 - 20 - i - f (20 + (i + 1)) from by omega]; done) | (rw [show hw * 4 - 20 - (i + f (20 + (i + 1))) = hw * 4 - 20 - i - 2 from by omega]; done), by omega, by omega, by unfold maxLen; omega, fun hlt2 => by first | rfl | (exact congrArg (fun o => some (Addr.mk D o none)) (by omega)) | (exfalso; omega), by omega, Lib.hid (((h3s.set1 _).laid (h3s.laid HLs (fun cs i v hi h => h.set i (by omega) v) 1 _) (fun cs i v hi h => h.set i (by omega) v) 2 _).drewN _), (((h3s.set1 _).low 2 _ 21 (by omega)).trans ((h3s.low 1 _ 21 (by omega)).trans e21s)), Lib.hid (((hOs.set _ _ _).set _ _ _).drewN _)⟩
end Go.Proofs.YtecgkcofmphaiaaGreatDoor.Gpk
namespace Go.Proofs.YtecgkcofmphaiaaGreatDoor.Gpk
open Go.RowKit
set_option linter.unusedVariables false
set_option maxRecDepth 1000000 in
set_option maxHeartbeats 4000000 in
theorem tcpRounds (D q hw m : Nat) (f : Nat → Nat) (df : Value) (w : World) (n : Nat) (x3 x4 x5 x6 x7 x9 x10 x11 x12 x13 x14 x15 x16 x17 x18 x19 x20 x21 x22 x23 x24 x25 x26 x27 x28 x29 x30 x31 x32 x33 x34 x35 x36 x37 x38 x39 x40 x41 x42 x43 x44 x45 x46 x47 x48 x49 x50 x51 x52 x53 x54 x55 x56 x57 x58 x59 x60 x61 x62 x63 x64 x65 x66 x67 x68 x69 x70 x71 x72 x73 x74 x75 x76 x77 x78 x79 x80 x81 x82 x83 x84 x85 x86 x87 x88 x89 x90 x91 x92 x93 x94 x95 x96 x97 x98 x99 x100 x101 x102 x103 x104 x105 x106 x107 x108 x109 x110 x111 x112 x113 x114 x115 x116 x117 x118 x119 x120 x121 x122 x123 x124 x125 x126 x127 x128 x129 x130 x131 x132 x133 x134 x135 x136 x137 x138 x139 x140 x141 x142 x143 x144 x145 x146 x147 x148 x149 x150 x151 x152 x153 x154 x155 x156 x157 x158 x159 x160 x161 x162 x163 x164 x165 x166 x167 x168 x169 x170 x171 x172 x173 x174 x175 x176 x177 x178 x179 x180 x181 x182 x183 x184 x185 x186 x187 x188 x189 x190 x191 x192 x193 x194 x195 x196 x197 x198 x199 x200 x201 x202 x203 x204 x205 x206 x207 x208 x209 x210 x211 x212 x213 x214 x215 x216 x217 x218 : Value) (hB : Byt w D q f n) (hf : IsB f) (h5 : 5 ≤ hw) (h15 : hw ≤ 15) (hl : hw * 4 ≤ n) (i : Nat) (hwf : WF 2 (fun i => f (20 + i)) (hw * 4 - 20) i) :
    ∃ N, ∀ k a wr, TcS D q hw m f df w x3 x4 x5 x6 x7 x9 x10 x11 x12 x13 x14 x15 x16 x17 x18 x19 x20 x21 x22 x23 x24 x25 x26 x27 x28 x29 x30 x31 x32 x33 x34 x35 x36 x37 x38 x39 x40 x41 x42 x43 x44 x45 x46 x47 x48 x49 x50 x51 x52 x53 x54 x55 x56 x57 x58 x59 x60 x61 x62 x63 x64 x65 x66 x67 x68 x69 x70 x71 x72 x73 x74 x75 x76 x77 x78 x79 x80 x81 x82 x83 x84 x85 x86 x87 x88 x89 x90 x91 x92 x93 x94 x95 x96 x97 x98 x99 x100 x101 x102 x103 x104 x105 x106 x107 x108 x109 x110 x111 x112 x113 x114 x115 x116 x117 x118 x119 x120 x121 x122 x123 x124 x125 x126 x127 x128 x129 x130 x131 x132 x133 x134 x135 x136 x137 x138 x139 x140 x141 x142 x143 x144 x145 x146 x147 x148 x149 x150 x151 x152 x153 x154 x155 x156 x157 x158 x159 x160 x161 x162 x163 x164 x165 x166 x167 x168 x169 x170 x171 x172 x173 x174 x175 x176 x177 x178 x179 x180 x181 x182 x183 x184 x185 x186 x187 x188 x189 x190 x191 x192 x193 x194 x195 x196 x197 x198 x199 x200 x201 x202 x203 x204 x205 x206 x207 x208 x209 x210 x211 x212 x213 x214 x215 x216 x217 x218 i k a wr → Code.rounds Tryz.prog tcpBody (TcQ D q hw m f df w x3 x4 x5 x6 x7 x9 x10 x11 x12 x13 x14 x15 x16 x17 x18 x19 x20 x21 x22 x23 x24 x25 x26 x27 x28 x29 x30 x31 x32 x33 x34 x35 x36 x37 x38 x39 x40 x41 x42 x43 x44 x45 x46 x47 x48 x49 x50 x51 x52 x53 x54 x55 x56 x57 x58 x59 x60 x61 x62 x63 x64 x65 x66 x67 x68 x69 x70 x71 x72 x73 x74 x75 x76 x77 x78 x79 x80 x81 x82 x83 x84 x85 x86 x87 x88 x89 x90 x91 x92 x93 x94 x95 x96 x97 x98 x99 x100 x101 x102 x103 x104 x105 x106 x107 x108 x109 x110 x111 x112 x113 x114 x115 x116 x117 x118 x119 x120 x121 x122 x123 x124 x125 x126 x127 x128 x129 x130 x131 x132 x133 x134 x135 x136 x137 x138 x139 x140 x141 x142 x143 x144 x145 x146 x147 x148 x149 x150 x151 x152 x153 x154 x155 x156 x157 x158 x159 x160 x161 x162 x163 x164 x165 x166 x167 x168 x169 x170 x171 x172 x173 x174 x175 x176 x177 x178 x179 x180 x181 x182 x183 x184 x185 x186 x187 x188 x189 x190 x191 x192 x193 x194 x195 x196 x197 x198 x199 x200 x201 x202 x203 x204 x205 x206 x207 x208 x209 x210 x211 x212 x213 x214 x215 x216 x217 x218) N a wr := by
  induction hwf with
  | done i h1 =>
    refine ⟨0 + 1, fun k a wr hs => ?_⟩
    rw [rounds_succ]
    obtain ⟨C, A, V, y8, y219, y220, y221, y222, y223, y224, y225, y226, y227, y228, y229, y230, y231, y232, y233, y234, y235, y236, y237, y238, y239, y240, y241, y242, y243, y244, y245, y246, y247, y248, y249, y250, y251, y252, y253, y254, y255, y256, y257, y258, y259, y260, y261, y262, y263, y264, y265, y266, y267, y268, y269, y270, y271, y272, y273, y274, y275, y276, y277, y278, y279, y280, y281, y282, y283, y284, y285, y286, y287, y288, y289, y290, y291, y292, y293, y294, y295, y296, y297, y298, y299, y300, y301, y302, y303, y304, y305, y306, y307, y308, rfl, hi, hC, hCm, hA, hki, HL, hc21, HO⟩ := hs
    exact tcpDone D q hw m f df w n wr x3 x4 x5 x6 x7 x9 x10 x11 x12 x13 x14 x15 x16 x17 x18 x19 x20 x21 x22 x23 x24 x25 x26 x27 x28 x29 x30 x31 x32 x33 x34 x35 x36 x37 x38 x39 x40 x41 x42 x43 x44 x45 x46 x47 x48 x49 x50 x51 x52 x53 x54 x55 x56 x57 x58 x59 x60 x61 x62 x63 x64 x65 x66 x67 x68 x69 x70 x71 x72 x73 x74 x75 x76 x77 x78 x79 x80 x81 x82 x83 x84 x85 x86 x87 x88 x89 x90 x91 x92 x93 x94 x95 x96 x97 x98 x99 x100 x101 x102 x103 x104 x105 x106 x107 x108 x109 x110 x111 x112 x113 x114 x115 x116 x117 x118 x119 x120 x121 x122 x123 x124 x125 x126 x127 x128 x129 x130 x131 x132 x133 x134 x135 x136 x137 x138 x139 x140 x141 x142 x143 x144 x145 x146 x147 x148 x149 x150 x151 x152 x153 x154 x155 x156 x157 x158 x159 x160 x161 x162 x163 x164 x165 x166 x167 x168 x169 x170 x171 x172 x173 x174 x175 x176 x177 x178 x179 x180 x181 x182 x183 x184 x185 x186 x187 x188 x189 x190 x191 x192 x193 x194 x195 x196 x197 x198 x199 x200 x201 x202 x203 x204 x205 x206 x207 x208 x209 x210 x211 x212 x213 x214 x215 x216 x217 x218 _ hB hf h5 h15 hl y8 y219 y220 y221 y222 y223 y224 y225 y226 y227 y228 y229 y230 y231 y232 y233 y234 y235 y236 y237 y238 y239 y240 y241 y242 y243 y244 y245 y246 y247 y248 y249 y250 y251 y252 y253 y254 y255 y256 y257 y258 y259 y260 y261 y262 y263 y264 y265 y266 y267 y268 y269 y270 y271 y272 y273 y274 y275 y276 y277 y278 y279 y280 y281 y282 y283 y284 y285 y286 y287 y288 y289 y290 y291 y292 y293 y294 y295 y296 y297 y298 y299 y300 y301 y302 y303 y304 y305 y306 y307 y308 V _ k C A hi hC hCm hA hki HL hc21 HO h1
  | stop i hlt hc =>
    refine ⟨0 + 1, fun k a wr hs => ?_⟩
    rw [rounds_succ]
    obtain ⟨C, A, V, y8, y219, y220, y221, y222, y223, y224, y225, y226, y227, y228, y229, y230, y231, y232, y233, y234, y235, y236, y237, y238, y239, y240, y241, y242, y243, y244, y245, y246, y247, y248, y249, y250, y251, y252, y253, y254, y255, y256, y257, y258, y259, y260, y261, y262, y263, y264, y265, y266, y267, y268, y269, y270, y271, y272, y273, y274, y275, y276, y277, y278, y279, y280, y281, y282, y283, y284, y285, y286, y287, y288, y289, y290, y291, y292, y293, y294, y295, y296, y297, y298, y299, y300, y301, y302, y303, y304, y305, y306, y307, y308, rfl, hi, hC, hCm, hA, hki, HL, hc21, HO⟩ := hs
    exact tcpStop D q hw m f df w n wr x3 x4 x5 x6 x7 x9 x10 x11 x12 x13 x14 x15 x16 x17 x18 x19 x20 x21 x22 x23 x24 x25 x26 x27 x28 x29 x30 x31 x32 x33 x34 x35 x36 x37 x38 x39 x40 x41 x42 x43 x44 x45 x46 x47 x48 x49 x50 x51 x52 x53 x54 x55 x56 x57 x58 x59 x60 x61 x62 x63 x64 x65 x66 x67 x68 x69 x70 x71 x72 x73 x74 x75 x76 x77 x78 x79 x80 x81 x82 x83 x84 x85 x86 x87 x88 x89 x90 x91 x92 x93 x94 x95 x96 x97 x98 x99 x100 x101 x102 x103 x104 x105 x106 x107 x108 x109 x110 x111 x112 x113 x114 x115 x116 x117 x118 x119 x120 x121 x122 x123 x124 x125 x126 x127 x128 x129 x130 x131 x132 x133 x134 x135 x136 x137 x138 x139 x140 x141 x142 x143 x144 x145 x146 x147 x148 x149 x150 x151 x152 x153 x154 x155 x156 x157 x158 x159 x160 x161 x162 x163 x164 x165 x166 x167 x168 x169 x170 x171 x172 x173 x174 x175 x176 x177 x178 x179 x180 x181 x182 x183 x184 x185 x186 x187 x188 x189 x190 x191 x192 x193 x194 x195 x196 x197 x198 x199 x200 x201 x202 x203 x204 x205 x206 x207 x208 x209 x210 x211 x212 x213 x214 x215 x216 x217 x218 _ hB hf h5 h15 hl y8 y219 y220 y221 y222 y223 y224 y225 y226 y227 y228 y229 y230 y231 y232 y233 y234 y235 y236 y237 y238 y239 y240 y241 y242 y243 y244 y245 y246 y247 y248 y249 y250 y251 y252 y253 y254 y255 y256 y257 y258 y259 y260 y261 y262 y263 y264 y265 y266 y267 y268 y269 y270 y271 y272 y273 y274 y275 y276 y277 y278 y279 y280 y281 y282 y283 y284 y285 y286 y287 y288 y289 y290 y291 y292 y293 y294 y295 y296 y297 y298 y299 y300 y301 y302 y303 y304 y305 y306 y307 y308 V _ k C A hi hC hCm hA hki HL hc21 HO hlt hc
  | one i hlt hc r ih =>
    obtain ⟨N, hN⟩ := ih
    refine ⟨N + 1, fun k a wr hs => ?_⟩
    rw [rounds_succ]
    obtain ⟨C, A, V, y8, y219, y220, y221, y222, y223, y224, y225, y226, y227, y228, y229, y230, y231, y232, y233, y234, y235, y236, y237, y238, y239, y240, y241, y242, y243, y244, y245, y246, y247, y248, y249, y250, y251, y252, y253, y254, y255, y256, y257, y258, y259, y260, y261, y262, y263, y264, y265, y266, y267, y268, y269, y270, y271, y272, y273, y274, y275, y276, y277, y278, y279, y280, y281, y282, y283, y284, y285, y286, y287, y288, y289, y290, y291, y292, y293, y294, y295, y296, y297, y298, y299, y300, y301, y302, y303, y304, y305, y306, y307, y308, rfl, hi, hC, hCm, hA, hki, HL, hc21, HO⟩ := hs
    exact tcpOne D q hw m f df w n wr x3 x4 x5 x6 x7 x9 x10 x11 x12 x13 x14 x15 x16 x17 x18 x19 x20 x21 x22 x23 x24 x25 x26 x27 x28 x29 x30 x31 x32 x33 x34 x35 x36 x37 x38 x39 x40 x41 x42 x43 x44 x45 x46 x47 x48 x49 x50 x51 x52 x53 x54 x55 x56 x57 x58 x59 x60 x61 x62 x63 x64 x65 x66 x67 x68 x69 x70 x71 x72 x73 x74 x75 x76 x77 x78 x79 x80 x81 x82 x83 x84 x85 x86 x87 x88 x89 x90 x91 x92 x93 x94 x95 x96 x97 x98 x99 x100 x101 x102 x103 x104 x105 x106 x107 x108 x109 x110 x111 x112 x113 x114 x115 x116 x117 x118 x119 x120 x121 x122 x123 x124 x125 x126 x127 x128 x129 x130 x131 x132 x133 x134 x135 x136 x137 x138 x139 x140 x141 x142 x143 x144 x145 x146 x147 x148 x149 x150 x151 x152 x153 x154 x155 x156 x157 x158 x159 x160 x161 x162 x163 x164 x165 x166 x167 x168 x169 x170 x171 x172 x173 x174 x175 x176 x177 x178 x179 x180 x181 x182 x183 x184 x185 x186 x187 x188 x189 x190 x191 x192 x193 x194 x195 x196 x197 x198 x199 x200 x201 x202 x203 x204 x205 x206 x207 x208 x209 x210 x211 x212 x213 x214 x215 x216 x217 x218 _ hB hf h5 h15 hl y8 y219 y220 y221 y222 y223 y224 y225 y226 y227 y228 y229 y230 y231 y232 y233 y234 y235 y236 y237 y238 y239 y240 y241 y242 y243 y244 y245 y246 y247 y248 y249 y250 y251 y252 y253 y254 y255 y256 y257 y258 y259 y260 y261 y262 y263 y264 y265 y266 y267 y268 y269 y270 y271 y272 y273 y274 y275 y276 y277 y278 y279 y280 y281 y282 y283 y284 y285 y286 y287 y288 y289 y290 y291 y292 y293 y294 y295 y296 y297 y298 y299 y300 y301 y302 y303 y304 y305 y306 y307 y308 V _ k C A hi hC hCm hA hki HL hc21 HO hlt hc (Lib.hid (fun a' w' h => hN _ a' w' h))
  | more i h1 h0 h00 h2 h3 r ih =>
    obtain ⟨N, hN⟩ := ih
    refine ⟨N + 1, fun k a wr hs => ?_⟩
    rw [rounds_succ]
    obtain ⟨C, A, V, y8, y219, y220, y221, y222, y223, y224, y225, y226, y227, y228, y229, y230, y231, y232, y233, y234, y235, y236, y237, y238, y239, y240, y241, y242, y243, y244, y245, y246, y247, y248, y249, y250, y251, y252, y253, y254, y255, y256, y257, y258, y259, y260, y261, y262, y263, y264, y265, y266, y267, y268, y269, y270, y271, y272, y273, y274, y275, y276, y277, y278, y279, y280, y281, y282, y283, y284, y285, y286, y287, y288, y289, y290, y291, y292, y293, y294, y295, y296, y297, y298, y299, y300, y301, y302, y303, y304, y305, y306, y307, y308, rfl, hi, hC, hCm, hA, hki, HL, hc21, HO⟩ := hs
    exact tcpMore D q hw m f df w n wr x3 x4 x5 x6 x7 x9 x10 x11 x12 x13 x14 x15 x16 x17 x18 x19 x20 x21 x22 x23 x24 x25 x26 x27 x28 x29 x30 x31 x32 x33 x34 x35 x36 x37 x38 x39 x40 x41 x42 x43 x44 x45 x46 x47 x48 x49 x50 x51 x52 x53 x54 x55 x56 x57 x58 x59 x60 x61 x62 x63 x64 x65 x66 x67 x68 x69 x70 x71 x72 x73 x74 x75 x76 x77 x78 x79 x80 x81 x82 x83 x84 x85 x86 x87 x88 x89 x90 x91 x92 x93 x94 x95 x96 x97 x98 x99 x100 x101 x102 x103 x104 x105 x106 x107 x108 x109 x110 x111 x112 x113 x114 x115 x116 x117 x118 x119 x120 x121 x122 x123 x124 x125 x126 x127 x128 x129 x130 x131 x132 x133 x134 x135 x136 x137 x138 x139 x140 x141 x142 x143 x144 x145 x146 x147 x148 x149 x150 x151 x152 x153 x154 x155 x156 x157 x158 x159 x160 x161 x162 x163 x164 x165 x166 x167 x168 x169 x170 x171 x172 x173 x174 x175 x176 x177 x178 x179 x180 x181 x182 x183 x184 x185 x186 x187 x188 x189 x190 x191 x192 x193 x194 x195 x196 x197 x198 x199 x200 x201 x202 x203 x204 x205 x206 x207 x208 x209 x210 x211 x212 x213 x214 x215 x216 x217 x218 _ hB hf h5 h15 hl y8 y219 y220 y221 y222 y223 y224 y225 y226 y227 y228 y229 y230 y231 y232 y233 y234 y235 y236 y237 y238 y239 y240 y241 y242 y243 y244 y245 y246 y247 y248 y249 y250 y251 y252 y253 y254 y255 y256 y257 y258 y259 y260 y261 y262 y263 y264 y265 y266 y267 y268 y269 y270 y271 y272 y273 y274 y275 y276 y277 y278 y279 y280 y281 y282 y283 y284 y285 y286 y287 y288 y289 y290 y291 y292 y293 y294 y295 y296 y297 y298 y299 y300 y301 y302 y303 y304 y305 y306 y307 y308 V _ k C A hi hC hCm hA hki HL hc21 HO (by omega) h0 h00 h2 h1 h3 (Lib.hid (fun a' w' h => hN _ a' w' h))
set_option maxRecDepth 1000000 in
set_option maxHeartbeats 4000000 in
theorem tcpLoop (D q hw m : Nat) (f : Nat → Nat) (df : Value) (w : World) (n C0 : Nat) (A0 : Option Addr) (w0 : World) (x3 x4 x5 x6 x7 x9 x10 x11 x12 x13 x14 x15 x16 x17 x18 x19 x20 x21 x22 x23 x24 x25 x26 x27 x28 x29 x30 x31 x32 x33 x34 x35 x36 x37 x38 x39 x40 x41 x42 x43 x44 x45 x46 x47 x48 x49 x50 x51 x52 x53 x54 x55 x56 x57 x58 x59 x60 x61 x62 x63 x64 x65 x66 x67 x68 x69 x70 x71 x72 x73 x74 x75 x76 x77 x78 x79 x80 x81 x82 x83 x84 x85 x86 x87 x88 x89 x90 x91 x92 x93 x94 x95 x96 x97 x98 x99 x100 x101 x102 x103 x104 x105 x106 x107 x108 x109 x110 x111 x112 x113 x114 x115 x116 x117 x118 x119 x120 x121 x122 x123 x124 x125 x126 x127 x128 x129 x130 x131 x132 x133 x134 x135 x136 x137 x138 x139 x140 x141 x142 x143 x144 x145 x146 x147 x148 x149 x150 x151 x152 x153 x154 x155 x156 x157 x158 x159 x160 x161 x162 x163 x164 x165 x166 x167 x168 x169 x170 x171 x172 x173 x174 x175 x176 x177 x178 x179 x180 x181 x182 x183 x184 x185 x186 x187 x188 x189 x190 x191 x192 x193 x194 x195 x196 x197 x198 x199 x200 x201 x202 x203 x204 x205 x206 x207 x208 x209 x210 x211 x212 x213 x214 x215 x216 x217 x218 y8 y219 y220 y221 y222 y223 y224 y225 y226 y227 y228 y229 y230 y231 y232 y233 y234 y235 y236 y237 y238 y239 y240 y241 y242 y243 y244 y245 y246 y247 y248 y249 y250 y251 y252 y253 y254 y255 y256 y257 y258 y259 y260 y261 y262 y263 y264 y265 y266 y267 y268 y269 y270 y271 y272 y273 y274 y275 y276 y277 y278 y279 y280 y281 y282 y283 y284 y285 y286 y287 y288 y289 y290 y291 y292 y293 y294 y295 y296 y297 y298 y299 y300 y301 y302 y303 y304 y305 y306 y307 y308 : Value) (hB : Byt w D q f n) (hf : IsB f) (h5 : 5 ≤ hw) (h15 : hw ≤ 15) (hl : hw * 4 ≤ n)
    (hC0 : hw * 4 - 20 ≤ C0) (hm0 : C0 ≤ maxLen) (hA0 : 0 < hw * 4 - 20 → A0 = some ⟨D, q + 20, none⟩) (hwf : WF 2 (fun i => f (20 + i)) (hw * 4 - 20) 0)
    (hL0 : Laid w w0 229 (Hdr D q (hw * 4) m 36)) (h21 : w0.cell? ⟨w.heap.size, 21, none⟩ = some (.slice (some ⟨w.heap.size, 23, none⟩) 0 4)) :
    Code.wp Tryz.prog (Code.loop tcpBody) (TcQ D q hw m f df w x3 x4 x5 x6 x7 x9 x10 x11 x12 x13 x14 x15 x16 x17 x18 x19 x20 x21 x22 x23 x24 x25 x26 x27 x28 x29 x30 x31 x32 x33 x34 x35 x36 x37 x38 x39 x40 x41 x42 x43 x44 x45 x46 x47 x48 x49 x50 x51 x52 x53 x54 x55 x56 x57 x58 x59 x60 x61 x62 x63 x64 x65 x66 x67 x68 x69 x70 x71 x72 x73 x74 x75 x76 x77 x78 x79 x80 x81 x82 x83 x84 x85 x86 x87 x88 x89 x90 x91 x92 x93 x94 x95 x96 x97 x98 x99 x100 x101 x102 x103 x104 x105 x106 x107 x108 x109 x110 x111 x112 x113 x114 x115 x116 x117 x118 x119 x120 x121 x122 x123 x124 x125 x126 x127 x128 x129 x130 x131 x132 x133 x134 x135 x136 x137 x138 x139 x140 x141 x142 x143 x144 x145 x146 x147 x148 x149 x150 x151 x152 x153 x154 x155 x156 x157 x158 x159 x160 x161 x162 x163 x164 x165 x166 x167 x168 x169 x170 x171 x172 x173 x174 x175 x176 x177 x178 x179 x180 x181 x182 x183 x184 x185 x186 x187 x188 x189 x190 x191 x192 x193 x194 x195 x196 x197 x198 x199 x200 x201 x202 x203 x204 x205 x206 x207 x208 x209 x210 x211 x212 x213 x214 x215 x216 x217 x218) ⟨List.toArray (.pointer (some ⟨w.heap.size, 0, none⟩) :: .slice A0 (hw * 4 - 20) C0 :: df :: x3 :: x4 :: x5 :: x6 :: x7 :: y8 :: x9 :: x10 :: x11 :: x12 :: x13 :: x14 :: x15 :: x16 :: x17 :: x18 :: x19 :: x20 :: x21 :: x22 :: x23 :: x24 :: x25 :: x26 :: x27 :: x28 :: x29 :: x30 :: x31 :: x32 :: x33 :: x34 :: x35 :: x36 :: x37 :: x38 :: x39 :: x40 :: x41 :: x42 :: x43 :: x44 :: x45 :: x46 :: x47 :: x48 :: x49 :: x50 :: x51 :: x52 :: x53 :: x54 :: x55 :: x56 :: x57 :: x58 :: x59 :: x60 :: x61 :: x62 :: x63 :: x64 :: x65 :: x66 :: x67 :: x68 :: x69 :: x70 :: x71 :: x72 :: x73 :: x74 :: x75 :: x76 :: x77 :: x78 :: x79 :: x80 :: x81 :: x82 :: x83 :: x84 :: x85 :: x86 :: x87 :: x88 :: x89 :: x90 :: x91 :: x92 :: x93 :: x94 :: x95 :: x96 :: x97 :: x98 :: x99 :: x100 :: x101 :: x102 :: x103 :: x104 :: x105 :: x106 :: x107 :: x108 :: x109 :: x110 :: x111 :: x112 :: x113 :: x114 :: x115 :: x116 :: x117 :: x118 :: x119 :: x120 :: x121 :: x122 :: x123 :: x124 :: x125 :: x126 :: x127 :: x128 :: x129 :: x130 :: x131 :: x132 :: x133 :: x134 :: x135 :: x136 :: x137 :: x138 :: x139 :: x140 :: x141 :: x142 :: x143 :: x144 :: x145 :: x146 :: x147 :: x148 :: x149 :: x150 :: x151 :: x152 :: x153 :: x154 :: x155 :: x156 :: x157 :: x158 :: x159 :: x160 :: x161 :: x162 :: x163 :: x164 :: x165 :: x166 :: x167 :: x168 :: x169 :: x170 :: x171 :: x172 :: x173 :: x174 :: x175 :: x176 :: x177 :: x178 :: x179 :: x180 :: x181 :: x182 :: x183 :: x184 :: x185 :: x186 :: x187 :: x188 :: x189 :: x190 :: x191 :: x192 :: x193 :: x194 :: x195 :: x196 :: x197 :: x198 :: x199 :: x200 :: x201 :: x202 :: x203 :: x204 :: x205 :: x206 :: x207 :: x208 :: x209 :: x210 :: x211 :: x212 :: x213 :: x214 :: x215 :: x216 :: x217 :: x218 :: y219 :: y220 :: y221 :: y222 :: y223 :: y224 :: y225 :: y226 :: y227 :: y228 :: y229 :: y230 :: y231 :: y232 :: y233 :: y234 :: y235 :: y236 :: y237 :: y238 :: y239 :: y240 :: y241 :: y242 :: y243 :: y244 :: y245 :: y246 :: y247 :: y248 :: y249 :: y250 :: y251 :: y252 :: y253 :: y254 :: y255 :: y256 :: y257 :: y258 :: y259 :: y260 :: y261 :: y262 :: y263 :: y264 :: y265 :: y266 :: y267 :: y268 :: y269 :: y270 :: y271 :: y272 :: y273 :: y274 :: y275 :: y276 :: y277 :: y278 :: y279 :: y280 :: y281 :: y282 :: y283 :: y284 :: y285 :: y286 :: y287 :: y288 :: y289 :: y290 :: y291 :: y292 :: y293 :: y294 :: y295 :: y296 :: y297 :: y298 :: y299 :: y300 :: y301 :: y302 :: y303 :: y304 :: y305 :: y306 :: y307 :: y308 :: []), []⟩ w0 := by
  obtain ⟨N, hN⟩ := tcpRounds D q hw m f df w n x3 x4 x5 x6 x7 x9 x10 x11 x12 x13 x14 x15 x16 x17 x18 x19 x20 x21 x22 x23 x24 x25 x26 x27 x28 x29 x30 x31 x32 x33 x34 x35 x36 x37 x38 x39 x40 x41 x42 x43 x44 x45 x46 x47 x48 x49 x50 x51 x52 x53 x54 x55 x56 x57 x58 x59 x60 x61 x62 x63 x64 x65 x66 x67 x68 x69 x70 x71 x72 x73 x74 x75 x76 x77 x78 x79 x80 x81 x82 x83 x84 x85 x86 x87 x88 x89 x90 x91 x92 x93 x94 x95 x96 x97 x98 x99 x100 x101 x102 x103 x104 x105 x106 x107 x108 x109 x110 x111 x112 x113 x114 x115 x116 x117 x118 x119 x120 x121 x122 x123 x124 x125 x126 x127 x128 x129 x130 x131 x132 x133 x134 x135 x136 x137 x138 x139 x140 x141 x142 x143 x144 x145 x146 x147 x148 x149 x150 x151 x152 x153 x154 x155 x156 x157 x158 x159 x160 x161 x162 x163 x164 x165 x166 x167 x168 x169 x170 x171 x172 x173 x174 x175 x176 x177 x178 x179 x180 x181 x182 x183 x184 x185 x186 x187 x188 x189 x190 x191 x192 x193 x194 x195 x196 x197 x198 x199 x200 x201 x202 x203 x204 x205 x206 x207 x208 x209 x210 x211 x212 x213 x214 x215 x216 x217 x218 hB hf h5 h15 hl 0 hwf
  refine wp_loop_rounds N (hN 0 _ _ ⟨C0, A0, _, _, _, _, _, _, _, _, _, _, _, _, _, _, _, _, _, _, _, _, _, _, _, _, _, _, _, _, _, _, _, _, _, _, _, _, _, _, _, _, _, _, _, _, _, _, _, _, _, _, _, _, _, _, _, _, _, _, _, _, _, _, _, _, _, _, _, _, _, _, _, _, _, _, _, _, _, _, _, _, _, _, _, _, _, _, _, _, _, _, _, _, by rw [Nat.sub_zero], Nat.zero_le _, hC0, hm0, hA0, Nat.le_refl _, Lib.hid hL0, h21, Lib.hid ⟨_, 23, 4, rfl, Nat.zero_le _, .inl ⟨rfl, rfl, rfl⟩⟩⟩)
end Go.Proofs.YtecgkcofmphaiaaGreatDoor.Gpk
namespace Go.Proofs.YtecgkcofmphaiaaGreatDoor.Gpk
open Go.RowKit
set_option maxRecDepth 1000000 in
set_option maxHeartbeats 4000000 in
theorem tcpD (D q n c hw : Nat) (f : Nat → Nat) (df : Value) (z0 z1 z2 z3 z4 z5 z6 z7 z8 z9 z10 z11 z12 z13 z14 z15 z16 z17 z18 z19 z20 z23 z24 z25 z26 z27 z28 z29 z30 z31 z32 z33 z34 z35 : Value) (w : World) (hB : Byt w D q f n) (hf : IsB f) (hc : n ≤ c) (hm : c ≤ maxLen)
    (hn : 20 ≤ n) (hh : f 12 / 16 = hw) (h5 : 5 ≤ hw) (hl : hw * 4 ≤ n) (hwf0 : WF 2 (fun i => f (20 + i)) (hw * 4 - 20) 0) :
    Calls Tryz.prog 131 #[.pointer (some ⟨w.heap.size, 0, none⟩), .slice (some ⟨D, q, none⟩) n c, df] (w.alloc (.cells #[z0, z1, z2, z3, z4, z5, z6, z7, z8, z9, z10, z11, z12, z13, z14, z15, z16, z17, z18, z19, z20, .slice none 0 0, .slice none 0 0, z23, z24, z25, z26, z27, z28, z29, z30, z31, z32, z33, z34, z35] 229)) fun e w' =>
      e = .returned .nilIface ∧ Laid w w' 229 (Hdr D q (hw * 4) (n - hw * 4) 36) := by
  have hm' := hm
  unfold maxLen at hm'
  have hD := hB.lt (by omega)
  have h15 : hw ≤ 15 := by have := hf 12; omega
  have hih : ((f 12 : Nat) : Int) / 16 = (hw : Int) := by omega
  have HH := Lib.hid hh
  clear hh
  have b0 := hf 0
  have b1 := hf 1
  have b2 := hf 2
  have b3 := hf 3
  have b4 := hf 4
  have b5 := hf 5
  have b6 := hf 6
  have b7 := hf 7
  have b8 := hf 8
  have b9 := hf 9
  have b10 := hf 10
  have b11 := hf 11
  have b12 := hf 12
  have b13 := hf 13
  have b14 := hf 14
  have b15 := hf 15
  have b16 := hf 16
  have b17 := hf 17
  have b18 := hf 18
  have b19 := hf 19
  have c0 := byt_past0 hB (by omega)
  have c1 := byt_past hB 1 (by omega)
  have c2 := byt_past hB 2 (by omega)
  have c3 := byt_past hB 3 (by omega)
  have c4 := byt_past hB 4 (by omega)
  have c5 := byt_past hB 5 (by omega)
  have c6 := byt_past hB 6 (by omega)
  have c7 := byt_past hB 7 (by omega)
  have c8 := byt_past hB 8 (by omega)
  have c9 := byt_past hB 9 (by omega)
  have c10 := byt_past hB 10 (by omega)
  have c11 := byt_past hB 11 (by omega)
  have c12 := byt_past hB 12 (by omega)
  have c13 := byt_past hB 13 (by omega)
  have c14 := byt_past hB 14 (by omega)
  have c15 := byt_past hB 15 (by omega)
  have c16 := byt_past hB 16 (by omega)
  have c17 := byt_past hB 17 (by omega)
  have c18 := byt_past hB 18 (by omega)
  have c19 := byt_past hB 19 (by omega)
  have heq := fun (w : World) (a : Option Addr) (n c : Nat) => Lib.run_eql_slice_nil (P := Tryz.prog) w 219 222 a n c 0 0 Tryz.underlying219
  go_enter Tryz.func131, Tryz.ntmps131
  go_wp2_with fail
  go_step3
  go_wp2_with fail
  refine (be16 _ _ _ (f 0) (f 1) _ (hf 0) (hf 1) (by first | exact c0 _ | (simp only [World.cell?_drewN]; exact c0 _)) (by first | exact c1 _ | (simp only [World.cell?_drewN]; exact c1 _))).mono ?_; rintro e w' ⟨rfl, k, rfl⟩
  go_wp2_with fail
  refine (be16 _ _ _ (f 2) (f 3) _ (hf 2) (hf 3) (by first | exact c2 _ | (simp only [World.cell?_drewN]; exact c2 _)) (by first | exact c3 _ | (simp only [World.cell?_drewN]; exact c3 _))).mono ?_; rintro e w' ⟨rfl, k, rfl⟩
  go_wp2_with fail
  refine (be32 _ _ _ _ (f 4) (f 5) (f 6) (f 7) (hf 4) (hf 5) (hf 6) (hf 7) (by first | exact c4 _ | (simp only [World.cell?_drewN]; exact c4 _)) (by first | exact c5 _ | (simp only [World.cell?_drewN]; exact c5 _)) (by first | exact c6 _ | (simp only [World.cell?_drewN]; exact c6 _)) (by first | exact c7 _ | (simp only [World.cell?_drewN]; exact c7 _))).mono ?_; rintro e w' ⟨⟨v, rfl⟩, k, rfl⟩
  go_wp2_with fail
  refine (be32 _ _ _ _ (f 8) (f 9) (f 10) (f 11) (hf 8) (hf 9) (hf 10) (hf 11) (by first | exact c8 _ | (simp only [World.cell?_drewN]; exact c8 _)) (by first | exact c9 _ | (simp only [World.cell?_drewN]; exact c9 _)) (by first | exact c10 _ | (simp only [World.cell?_drewN]; exact c10 _)) (by first | exact c11 _ | (simp only [World.cell?_drewN]; exact c11 _))).mono ?_; rintro e w' ⟨⟨v, rfl⟩, k, rfl⟩
  go_wp2_with fail
  refine (be16 _ _ _ (f 14) (f 15) _ (hf 14) (hf 15) (by first | exact c14 _ | (simp only [World.cell?_drewN]; exact c14 _)) (by first | exact c15 _ | (simp only [World.cell?_drewN]; exact c15 _))).mono ?_; rintro e w' ⟨rfl, k, rfl⟩
  go_wp2_with fail
  refine (be16 _ _ _ (f 16) (f 17) _ (hf 16) (hf 17) (by first | exact c16 _ | (simp only [World.cell?_drewN]; exact c16 _)) (by first | exact c17 _ | (simp only [World.cell?_drewN]; exact c17 _))).mono ?_; rintro e w' ⟨rfl, k, rfl⟩
  go_wp2_with fail
  refine (be16 _ _ _ (f 18) (f 19) _ (hf 18) (hf 19) (by first | exact c18 _ | (simp only [World.cell?_drewN]; exact c18 _)) (by first | exact c19 _ | (simp only [World.cell?_drewN]; exact c19 _))).mono ?_; rintro e w' ⟨rfl, k, rfl⟩
  go_wp2_with fail
  all_goals have HW := Lib.hid hwf0
  all_goals clear hwf0
  all_goals go_step3
  all_goals go_wp2_with fail
  · obtain rfl : hw = 5 := by omega
    change Code.wp Tryz.prog (Code.loop tcpBody) _ _ _
    refine Code.wp_mono ?fina (tcpLoop D q 5 (n - 5 * 4) f df w n _ _ _ _ _ _ _ _ _ _ _ _ _ _ _ _ _ _ _ _ _ _ _ _ _ _ _ _ _ _ _ _ _ _ _ _ _ _ _ _ _ _ _ _ _ _ _ _ _ _ _ _ _ _ _ _ _ _ _ _ _ _ _ _ _ _ _ _ _ _ _ _ _ _ _ _ _ _ _ _ _ _ _ _ _ _ _ _ _ _ _ _ _ _ _ _ _ _ _ _ _ _ _ _ _ _ _ _ _ _ _ _ _ _ _ _ _ _ _ _ _ _ _ _ _ _ _ _ _ _ _ _ _ _ _ _ _ _ _ _ _ _ _ _ _ _ _ _ _ _ _ _ _ _ _ _ _ _ _ _ _ _ _ _ _ _ _ _ _ _ _ _ _ _ _ _ _ _ _ _ _ _ _ _ _ _ _ _ _ _ _ _ _ _ _ _ _ _ _ _ _ _ _ _ _ _ _ _ _ _ _ _ _ _ _ _ _ _ _ _ _ _ _ _ _ _ _ _ _ _ _ _ _ _ _ _ _ _ _ _ _ _ _ _ _ _ _ _ _ _ _ _ _ _ _ _ _ _ _ _ _ _ _ _ _ _ _ _ _ _ _ _ _ _ _ _ _ _ _ _ _ _ _ _ _ _ _ _ _ _ _ _ _ _ _ _ _ _ _ _ _ _ _ _ _ _ _ _ _ hB hf h5 h15 hl ?c1a ?c2a ?c3a HW.out ?c4a ?c5a)
    case c1a => omega
    case c2a => unfold maxLen; omega
    case c3a => exact fun hh3 => by first | rfl | omega
    case c4a => exact Laid.mk _ _ _ _ _ ⟨rfl, ⟨_, rfl, _, _, rfl, by omega, by unfold maxLen; omega, fun _ => rfl⟩, ⟨_, rfl, _, _, rfl, by omega, by unfold maxLen; omega, fun h => by first | rfl | omega | (rw [if_neg (by omega)])⟩⟩
    case c5a => exact (cell_of_row _ _ _ _ 229 (0, 0) (by rw [World.heap_drewN]; exact heap_alloc_new w _)).trans rfl
    case fina =>
      rintro (_ | id | l | _ | ch | _) a w1 hq
      · exact (show False from hq).elim
      · rcases id with _ | id
        · obtain ⟨h1, h2, hL⟩ := hq
          obtain ⟨tm, df'⟩ := a
          simp only at h1 h2
          subst h1
          have HL := Lib.hid hL
          clear hL
          go_wp2
          try rw [Exit.noGoto_ret]
          go_ret
          exact ⟨by simp [h2], HL.out⟩
        · exact (show False from hq).elim
      · exact (show False from hq).elim
      · exact (show False from hq).elim
      · exact (show False from hq).elim
      · exact (show False from hq).elim
  · change Code.wp Tryz.prog (Code.loop tcpBody) _ _ _
    refine Code.wp_mono ?finb (tcpLoop D q hw (n - hw * 4) f df w n _ _ _ _ _ _ _ _ _ _ _ _ _ _ _ _ _ _ _ _ _ _ _ _ _ _ _ _ _ _ _ _ _ _ _ _ _ _ _ _ _ _ _ _ _ _ _ _ _ _ _ _ _ _ _ _ _ _ _ _ _ _ _ _ _ _ _ _ _ _ _ _ _ _ _ _ _ _ _ _ _ _ _ _ _ _ _ _ _ _ _ _ _ _ _ _ _ _ _ _ _ _ _ _ _ _ _ _ _ _ _ _ _ _ _ _ _ _ _ _ _ _ _ _ _ _ _ _ _ _ _ _ _ _ _ _ _ _ _ _ _ _ _ _ _ _ _ _ _ _ _ _ _ _ _ _ _ _ _ _ _ _ _ _ _ _ _ _ _ _ _ _ _ _ _ _ _ _ _ _ _ _ _ _ _ _ _ _ _ _ _ _ _ _ _ _ _ _ _ _ _ _ _ _ _ _ _ _ _ _ _ _ _ _ _ _ _ _ _ _ _ _ _ _ _ _ _ _ _ _ _ _ _ _ _ _ _ _ _ _ _ _ _ _ _ _ _ _ _ _ _ _ _ _ _ _ _ _ _ _ _ _ _ _ _ _ _ _ _ _ _ _ _ _ _ _ _ _ _ _ _ _ _ _ _ _ _ _ _ _ _ _ _ _ _ _ _ _ _ _ _ _ _ _ _ _ _ _ _ hB hf h5 h15 hl ?c1b ?c2b ?c3b HW.out ?c4b ?c5b)
    case c1b => omega
    case c2b => unfold maxLen; omega
    case c3b => exact fun hh3 => by first | rfl | omega
    case c4b => exact Laid.mk _ _ _ _ _ ⟨rfl, ⟨_, rfl, _, _, rfl, by omega, by unfold maxLen; omega, fun _ => rfl⟩, ⟨_, rfl, _, _, rfl, by omega, by unfold maxLen; omega, fun h => by first | rfl | omega | (rw [if_neg (by omega)])⟩⟩
    case c5b => exact (cell_of_row _ _ _ _ 229 (0, 0) (by rw [World.heap_drewN]; exact heap_alloc_new w _)).trans rfl
    case finb =>
      rintro (_ | id | l | _ | ch | _) a w1 hq
      · exact (show False from hq).elim
      · rcases id with _ | id
        · obtain ⟨h1, h2, hL⟩ := hq
          obtain ⟨tm, df'⟩ := a
          simp only at h1 h2
          subst h1
          have HL := Lib.hid hL
          clear hL
          go_wp2
          try rw [Exit.noGoto_ret]
          go_ret
          exact ⟨by simp [h2], HL.out⟩
        · exact (show False from hq).elim
      · exact (show False from hq).elim
      · exact (show False from hq).elim
      · exact (show False from hq).elim
      · exact (show False from hq).elim
  · change Code.wp Tryz.prog (Code.loop tcpBody) _ _ _
    refine Code.wp_mono ?finc (tcpLoop D q hw (n - hw * 4) f df w n _ _ _ _ _ _ _ _ _ _ _ _ _ _ _ _ _ _ _ _ _ _ _ _ _ _ _ _ _ _ _ _ _ _ _ _ _ _ _ _ _ _ _ _ _ _ _ _ _ _ _ _ _ _ _ _ _ _ _ _ _ _ _ _ _ _ _ _ _ _ _ _ _ _ _ _ _ _ _ _ _ _ _ _ _ _ _ _ _ _ _ _ _ _ _ _ _ _ _ _ _ _ _ _ _ _ _ _ _ _ _ _ _ _ _ _ _ _ _ _ _ _ _ _ _ _ _ _ _ _ _ _ _ _ _ _ _ _ _ _ _ _ _ _ _ _ _ _ _ _ _ _ _ _ _ _ _ _ _ _ _ _ _ _ _ _ _ _ _ _ _ _ _ _ _ _ _ _ _ _ _ _ _ _ _ _ _ _ _ _ _ _ _ _ _ _ _ _ _ _ _ _ _ _ _ _ _ _ _ _ _ _ _ _ _ _ _ _ _ _ _ _ _ _ _ _ _ _ _ _ _ _ _ _ _ _ _ _ _ _ _ _ _ _ _ _ _ _ _ _ _ _ _ _ _ _ _ _ _ _ _ _ _ _ _ _ _ _ _ _ _ _ _ _ _ _ _ _ _ _ _ _ _ _ _ _ _ _ _ _ _ _ _ _ _ _ _ _ _ _ _ _ _ _ _ _ _ _ _ hB hf h5 h15 hl ?c1c ?c2c ?c3c HW.out ?c4c ?c5c)
    case c1c => omega
    case c2c => unfold maxLen; omega
    case c3c => exact fun hh3 => by first | rfl | omega
    case c4c => exact Laid.mk _ _ _ _ _ ⟨rfl, ⟨_, rfl, _, _, rfl, by omega, by unfold maxLen; omega, fun _ => rfl⟩, ⟨_, rfl, _, _, rfl, by omega, by unfold maxLen; omega, fun h => by first | rfl | omega | (rw [if_neg (by omega)])⟩⟩
    case c5c => exact (cell_of_row _ _ _ _ 229 (0, 0) (by rw [World.heap_drewN]; exact heap_alloc_new w _)).trans rfl
    case finc =>
      rintro (_ | id | l | _ | ch | _) a w1 hq
      · exact (show False from hq).elim
      · rcases id with _ | id
        · obtain ⟨h1, h2, hL⟩ := hq
          obtain ⟨tm, df'⟩ := a
          simp only at h1 h2
          subst h1
          have HL := Lib.hid hL
          clear hL
          go_wp2
          try rw [Exit.noGoto_ret]
          go_ret
          exact ⟨by simp [h2], HL.out⟩
        · exact (show False from hq).elim
      · exact (show False from hq).elim
      · exact (show False from hq).elim
      · exact (show False from hq).elim
      · exact (show False from hq).elim
theorem tcpD2 (D q n c : Nat) (f : Nat → Nat) (df : Value) (z0 z1 z2 z3 z4 z5 z6 z7 z8 z9 z10 z11 z12 z13 z14 z15 z16 z17 z18 z19 z20 z23 z24 z25 z26 z27 z28 z29 z30 z31 z32 z33 z34 z35 : Value) (w : World) (hB : Byt w D q f n) (hf : IsB f) (hc : n ≤ c) (hm : c ≤ maxLen)
    (t1 : 20 ≤ n) (t2 : 20 ≤ f 12 / 16 * 4) (t3 : f 12 / 16 * 4 ≤ n) (t5 : WF 2 (fun i => f (20 + i)) (f 12 / 16 * 4 - 20) 0) :
    Calls Tryz.prog 131 #[.pointer (some ⟨w.heap.size, 0, none⟩), .slice (some ⟨D, q, none⟩) n c, df] (w.alloc (.cells #[z0, z1, z2, z3, z4, z5, z6, z7, z8, z9, z10, z11, z12, z13, z14, z15, z16, z17, z18, z19, z20, .slice none 0 0, .slice none 0 0, z23, z24, z25, z26, z27, z28, z29, z30, z31, z32, z33, z34, z35] 229)) fun e w' =>
      e = .returned .nilIface ∧ Laid w w' 229 (Hdr D q (f 12 / 16 * 4) (n - f 12 / 16 * 4) 36) :=
  tcpD D q n c (f 12 / 16) f df z0 z1 z2 z3 z4 z5 z6 z7 z8 z9 z10 z11 z12 z13 z14 z15 z16 z17 z18 z19 z20 z23 z24 z25 z26 z27 z28 z29 z30 z31 z32 z33 z34 z35 w hB hf hc hm t1 rfl (by omega) t3 t5
end Go.Proofs.YtecgkcofmphaiaaGreatDoor.Gpk
