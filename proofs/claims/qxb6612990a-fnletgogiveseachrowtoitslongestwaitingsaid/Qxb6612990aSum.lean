/-
  The two loops of totals, and what follows.
-/
import Derived.Test.Qxb6612990aRest
import Derived.Deep.CutBlock
namespace Go.Proofs.Qxb6612990a
open Go.RowKit

set_option maxRecDepth 100000 in
set_option maxHeartbeats 2000000 in
theorem rest5 {B n m c0 c1 : Nat} {a0 a1 : Option Addr} {s1 s2 : List ByteArray} {w0 wc : World} (x2 x3 x4 x5 x6 x7 x8 x9 x10 x11 x12 x13 x14 x15 x16 x17 x18 x19 x20 x21 x22 x23 x24 x25 x26 x27 x28 x29 x30 x31 x32 x33 x34 x35 x36 x37 x38 x39 x40 x41 x42 x43 x44 x45 x46 x47 x48 x49 x50 x51 x52 x53 x54 x55 x56 x57 x58 x59 x60 x61 x62 x63 x64 x65 x66 x67 x68 x69 x70 x71 x72 x73 x74 x75 x76 x77 x78 x79 x80 x81 x82 x83 x84 x85 x86 x87 x88 x89 x90 x91 x92 x93 x94 x95 x96 x97 x98 x99 x100 x101 x102 x103 x104 x105 x106 x107 x108 x109 x110 x111 x112 x113 x114 x115 x116 x117 x118 x119 x120 x121 x122 x123 x124 x125 x126 x127 x128 x129 x130 x131 x132 x133 x134 x135 x136 x137 x138 x139 x140 x141 x142 x143 x144 x145 x146 x147 x148 x149 x150 x151 x152 x153 x154 x155 x156 x157 x158 x159 x160 x161 x162 x163 x164 x165 x166 x167 x168 x169 x170 x171 x172 x173 x174 x175 x176 x177 x178 x179 x180 x181 x182 x183 x184 x185 x186 x187 x188 x189 x190 x191 x192 x193 x194 x195 x196 x197 x198 x199 x200 x201 x202 x203 x204 x205 x206 : Value) (hn : s1.length = n) (hm : s2.length = m)
    (hst : StrsAt wc (.slice a0 n c0) s1) (hst2 : StrsAt wc (.slice a1 m c1) s2) (hB : Below B w0 wc) (hBs : B ≤ wc.heap.size) :
    Code.wp Try.prog (tl 5 (Try.f4.body.getD .skip)) (bodyPost Try.prog Try.f4 fun e w' => e = .returned (.bool true) ∧ Below B w0 w') ⟨#[.slice a0 n c0, .slice a1 m c1, x2, x3, x4, x5, x6, x7, x8, x9, x10, x11, x12, x13, x14, x15, x16, x17, x18, x19, x20, x21, x22, x23, x24, x25, x26, x27, x28, x29, x30, x31, x32, x33, x34, x35, x36, x37, x38, x39, x40, x41, x42, x43, x44, x45, x46, x47, x48, x49, x50, x51, x52, x53, x54, x55, x56, x57, x58, x59, x60, x61, x62, x63, x64, x65, x66, x67, x68, x69, x70, x71, x72, x73, x74, x75, x76, x77, x78, x79, x80, x81, x82, x83, x84, x85, x86, x87, x88, x89, x90, x91, x92, x93, x94, x95, x96, x97, x98, x99, x100, x101, x102, x103, x104, x105, x106, x107, x108, x109, x110, x111, x112, x113, x114, x115, x116, x117, x118, x119, x120, x121, x122, x123, x124, x125, x126, x127, x128, x129, x130, x131, x132, x133, x134, x135, x136, x137, x138, x139, x140, x141, x142, x143, x144, x145, x146, x147, x148, x149, x150, x151, x152, x153, x154, x155, x156, x157, x158, x159, x160, x161, x162, x163, x164, x165, x166, x167, x168, x169, x170, x171, x172, x173, x174, x175, x176, x177, x178, x179, x180, x181, x182, x183, x184, x185, x186, x187, x188, x189, x190, x191, x192, x193, x194, x195, x196, x197, x198, x199, x200, x201, x202, x203, x204, x205, x206], []⟩ wc := by
  conv => arg 2; whnf
  have hst' := hst
  have hst2' := hst2
  obtain ⟨_, _, e1, hl1, hs1⟩ := hst'
  obtain ⟨_, _, e2, hl2, hs2⟩ := hst2'
  simp only [Value.slice.injEq] at e1 e2
  obtain ⟨rfl, hx1, rfl⟩ := e1
  obtain ⟨rfl, hx2, rfl⟩ := e2
  clear hx1 hx2
  rw [hn] at hl1
  rw [hm] at hl2
  go_upto_block 0 with fail
  go_cut [7] (fun t wd => (∃ y : Int, t = .int .i64 y) ∧ wd = wc)
  case first =>
    go_wp2_with fail
    go_loop [7, 8] (fun z i => ∃ (k : Nat) (y : Int), k ≤ n ∧ i = .int .i64 k ∧ z = .int .i64 y) (fun _ i => n - (intOf i).toNat)
    case atStart => exact ⟨0, 0, Nat.zero_le _, rfl, rfl⟩
    case round =>
      obtain ⟨k, y, hk, rfl, rfl⟩ := hrel
      by_cases hlt : k < n
      · obtain ⟨ad, hix, hcell⟩ := str_at (c := c0) hn hs1 k hlt
        have hlt' : (k : Int) < (n : Int) := by omega
        generalize s1.getD k ByteArray.empty = s at hcell
        clear hs1 hs2
        go_wp2
        · go_ret
          exact ⟨rfl, hB⟩
        · go_round
          case rel => exact ⟨k + 1, _, by omega, by go_num, rfl⟩
          case measure => simp [intOf]; omega
      · have hge : ¬ (k : Int) < (n : Int) := by omega
        go_wp2_with fail
        go_meet
        case rel => exact ⟨⟨y, rfl⟩, rfl⟩
  case rest =>
    obtain ⟨⟨y0, rfl⟩, rfl⟩ := hcut
    go_upto_block 2 with fail
    go_cut [7] (fun t wd => (∃ y : Int, t = .int .i64 y) ∧ wd = wc)
    case first =>
      go_wp2_with fail
      go_loop [7, 9] (fun z i => ∃ (k : Nat) (y : Int), k ≤ m ∧ i = .int .i64 k ∧ z = .int .i64 y) (fun _ i => m - (intOf i).toNat)
      case atStart => exact ⟨0, y0, Nat.zero_le _, rfl, rfl⟩
      case round =>
        obtain ⟨k, y, hk, rfl, rfl⟩ := hrel
        by_cases hlt : k < m
        · obtain ⟨ad, hix, hcell⟩ := str_at (c := c1) hm hs2 k hlt
          have hlt' : (k : Int) < (m : Int) := by omega
          generalize s2.getD k ByteArray.empty = s at hcell
          clear hs1 hs2
          go_wp2
          · go_ret
            exact ⟨rfl, hB⟩
          · go_round
            case rel => exact ⟨k + 1, _, by omega, by go_num, rfl⟩
            case measure => simp [intOf]; omega
        · have hge : ¬ (k : Int) < (m : Int) := by omega
          go_wp2_with fail
          go_meet
          case rel => exact ⟨⟨y, rfl⟩, rfl⟩
    case rest =>
      obtain ⟨⟨y1, rfl⟩, rfl⟩ := hcut
      rename_i hK
      exact hK _ _ (rest8 _ _ _ _ _ _ _ _ _ _ _ _ _ _ _ _ _ _ _ _ _ _ _ _ _ _ _ _ _ _ _ _ _ _ _ _ _ _ _ _ _ _ _ _ _ _ _ _ _ _ _ _ _ _ _ _ _ _ _ _ _ _ _ _ _ _ _ _ _ _ _ _ _ _ _ _ _ _ _ _ _ _ _ _ _ _ _ _ _ _ _ _ _ _ _ _ _ _ _ _ _ _ _ _ _ _ _ _ _ _ _ _ _ _ _ _ _ _ _ _ _ _ _ _ _ _ _ _ _ _ _ _ _ _ _ _ _ _ _ _ _ _ _ _ _ _ _ _ _ _ _ _ _ _ _ _ _ _ _ _ _ _ _ _ _ _ _ _ _ _ _ _ _ _ _ _ _ _ _ _ _ _ _ _ _ _ _ _ _ _ _ _ _ _ _ _ _ _ _ _ _ _ _ _ _ hn hm hst hst2 hB hBs)
end Go.Proofs.Qxb6612990a
