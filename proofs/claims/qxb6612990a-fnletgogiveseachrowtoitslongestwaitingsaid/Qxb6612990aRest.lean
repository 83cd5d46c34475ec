/-
  The law's own function behind its two loops of totals: the queues are built, rows are let go of, each update is looked at.
-/
import Derived.Test.Qxb6612990aPre
import Derived.Lib.Builder
namespace Go.Proofs.Qxb6612990a
open Go.RowKit

theorem eq_of_bytes {a b : ByteArray} (h : (a.toList == b.toList) = true) : a = b := by
  have : a.toList = b.toList := by simpa using h
  rw [ByteArray.toList_eq, ByteArray.toList_eq] at this
  exact WideShapes.bytes_inj this
theorem ne_of_bytes {a b : ByteArray} (h : (a.toList == b.toList) = false) : a ≠ b := fun e => by
  subst e
  simp at h
theorem cnt_yes {wl : List ByteArray} {k : Nat} {row t : ByteArray} (hk : k < wl.length) (ht : wsOf wl k = t) (he : (t.toList == row.toList) = true) : cnt row (wl.take (k + 1)) = cnt row (wl.take k) + 1 := by
  rw [cnt_take_succ hk, ht, if_pos (eq_of_bytes he).symm]
theorem cnt_no {wl : List ByteArray} {k : Nat} {row t : ByteArray} (hk : k < wl.length) (ht : wsOf wl k = t) (he : (t.toList == row.toList) = false) : cnt row (wl.take (k + 1)) = cnt row (wl.take k) := by
  rw [cnt_take_succ hk, ht, if_neg (fun e => ne_of_bytes he e.symm)]
  rfl

/-- What the queues say of update k, its row's numbers known. -/
theorem facts {wl rs : List ByteArray} {X' : List Ent} {cl' : Nat → Bool} {k pos arr lets : Nat} {row : ByteArray} (hd : Done rs (fun r => idxs (wsOf wl) r wl.length) (fun r => Qf r X') (fun _ => false) cl') (hk : k < wl.length)
    (hr : wsOf wl k = row) (hp : cnt row (wl.take k) = pos) (ha : cnt row wl = arr) (hl : cnt row rs = lets) :
    cl' k = decide (pos < lets) ∧ (Qf row X').length = arr - lets ∧ pos < arr ∧ (lets ≤ pos → (Qf row X')[pos - lets]? = some k) := by
  subst hr hp ha hl
  exact ⟨given_iff hd hk, left_len hd _, pos_lt hk, fun h => left_at hd hk h⟩

theorem neq_same (a : Addr) (w : World) : (binOp .neq 38 (.pointer (some a)) (.pointer (some a))).run Try.prog w = .ok (.bool false) w := by
  have h : ((Try.prog.info? 70).map fun _ => true) = some true := by kernel_rfl
  obtain ⟨i, hi, _⟩ := Option.map_eq_some_iff.1 h
  exact Lib.run_neq_ptr_same w a Try.underlying38 hi

theorem turn_any {w : World} {bs bm n : Nat} {ws : Nat → ByteArray} {tb cb : Nat → Nat} {cl : Nat → Bool} {X : List Ent} (S : St w bs bm n ws tb cb cl X) (j : Nat) (hj : j < n) :
    Calls Try.prog 14 #[.pointer (some ⟨tb j, 0, none⟩)] w fun e w' => e = .returned (.bool (cl j)) ∧ w' = w := by
  obtain ⟨h1, h2⟩ := S.chn j hj
  cases hc : cl j with
  | true => rw [hc] at h2; exact turn_shut _ _ _ _ _ w h1 h2
  | false => rw [hc] at h2; exact turn_open _ _ _ _ _ w h1 h2

set_option maxRecDepth 100000 in
set_option maxHeartbeats 2000000 in
theorem rest8 {B n m c0 c1 : Nat} {a0 a1 : Option Addr} {s1 s2 : List ByteArray} {w0 wc : World} (x2 x3 x4 x5 x6 x7 x8 x9 x10 x11 x12 x13 x14 x15 x16 x17 x18 x19 x20 x21 x22 x23 x24 x25 x26 x27 x28 x29 x30 x31 x32 x33 x34 x35 x36 x37 x38 x39 x40 x41 x42 x43 x44 x45 x46 x47 x48 x49 x50 x51 x52 x53 x54 x55 x56 x57 x58 x59 x60 x61 x62 x63 x64 x65 x66 x67 x68 x69 x70 x71 x72 x73 x74 x75 x76 x77 x78 x79 x80 x81 x82 x83 x84 x85 x86 x87 x88 x89 x90 x91 x92 x93 x94 x95 x96 x97 x98 x99 x100 x101 x102 x103 x104 x105 x106 x107 x108 x109 x110 x111 x112 x113 x114 x115 x116 x117 x118 x119 x120 x121 x122 x123 x124 x125 x126 x127 x128 x129 x130 x131 x132 x133 x134 x135 x136 x137 x138 x139 x140 x141 x142 x143 x144 x145 x146 x147 x148 x149 x150 x151 x152 x153 x154 x155 x156 x157 x158 x159 x160 x161 x162 x163 x164 x165 x166 x167 x168 x169 x170 x171 x172 x173 x174 x175 x176 x177 x178 x179 x180 x181 x182 x183 x184 x185 x186 x187 x188 x189 x190 x191 x192 x193 x194 x195 x196 x197 x198 x199 x200 x201 x202 x203 x204 x205 x206 : Value) (hn : s1.length = n) (hm : s2.length = m)
    (hst : StrsAt wc (.slice a0 n c0) s1) (hst2 : StrsAt wc (.slice a1 m c1) s2) (hB : Below B w0 wc) (hBs : B ≤ wc.heap.size) :
    Code.wp Try.prog (tl 8 (Try.f4.body.getD .skip)) (bodyPost Try.prog Try.f4 fun e w' => e = .returned (.bool true) ∧ Below B w0 w') ⟨#[.slice a0 n c0, .slice a1 m c1, x2, x3, x4, x5, x6, x7, x8, x9, x10, x11, x12, x13, x14, x15, x16, x17, x18, x19, x20, x21, x22, x23, x24, x25, x26, x27, x28, x29, x30, x31, x32, x33, x34, x35, x36, x37, x38, x39, x40, x41, x42, x43, x44, x45, x46, x47, x48, x49, x50, x51, x52, x53, x54, x55, x56, x57, x58, x59, x60, x61, x62, x63, x64, x65, x66, x67, x68, x69, x70, x71, x72, x73, x74, x75, x76, x77, x78, x79, x80, x81, x82, x83, x84, x85, x86, x87, x88, x89, x90, x91, x92, x93, x94, x95, x96, x97, x98, x99, x100, x101, x102, x103, x104, x105, x106, x107, x108, x109, x110, x111, x112, x113, x114, x115, x116, x117, x118, x119, x120, x121, x122, x123, x124, x125, x126, x127, x128, x129, x130, x131, x132, x133, x134, x135, x136, x137, x138, x139, x140, x141, x142, x143, x144, x145, x146, x147, x148, x149, x150, x151, x152, x153, x154, x155, x156, x157, x158, x159, x160, x161, x162, x163, x164, x165, x166, x167, x168, x169, x170, x171, x172, x173, x174, x175, x176, x177, x178, x179, x180, x181, x182, x183, x184, x185, x186, x187, x188, x189, x190, x191, x192, x193, x194, x195, x196, x197, x198, x199, x200, x201, x202, x203, x204, x205, x206], []⟩ wc := by
  conv => arg 2; whnf
  have hnew := new_any hst
  rw [hn] at hnew
  go_wp2_with fail
  refine hnew.mono ?_
  rintro e w1 ⟨rfl, tb, cb, X, clock, D, hB1⟩
  have S := D.toSt
  have hlow := D.low
  have hlock : w1.cell? ⟨wc.heap.size + 1, 0, none⟩ = some (.int .i32 0) := by simp [World.cell?, D.blk]
  have hfz : w1.frozen? ⟨wc.heap.size + 1, 0, none⟩ = false := by simp [World.frozen?, D.blk]
  have hst2' := strsAt_kept hst2 (fun a u _ h => below_cells hB1 a u h)
  have hgo := ZZletGo_any (B := wc.heap.size) S ⟨by omega, by omega, fun j hj => (D.chn j hj).2.2⟩ hlock hfz hst2'
  go_wp2_with fail
  refine hgo.mono ?_
  rintro e w2 ⟨rfl, X', cl', S', hd, hk2, hB2⟩
  have hque : (fun r => Qf r X) = fun r => idxs (wsOf s1) r s1.length := funext fun r => by rw [hn]; exact D.que r
  rw [hque] at hd
  obtain ⟨tc, t1, t2, t3⟩ := D.tur
  have htur : ∀ j, j < n → w2.cell? ⟨wc.heap.size + 1 + 1, j, none⟩ = some (.pointer (some ⟨tb j, 0, none⟩)) := fun j hj => hk2 _ _ rfl (by simp [World.cell?, t1]; exact t3 j hj)
  have hs1 := strsAt_kept (strsAt_kept hst (fun a u _ h => below_cells hB1 a u h)) hk2
  have hs2 := strsAt_kept hst2' hk2
  have hBz : Below B w0 w2 := (hB.trans (hB1.mono hBs)).trans (hB2.mono hBs)
  clear hque t1 t2 t3 hk2 hB1 hB2 hst hst2 hst2' hgo hnew hlock hfz S D hB hBs
  obtain ⟨_, _, e1, hl1, hs1⟩ := hs1
  obtain ⟨_, _, e2, hl2, hs2⟩ := hs2
  simp only [Value.slice.injEq] at e1 e2
  obtain ⟨rfl, hx1, rfl⟩ := e1
  obtain ⟨rfl, hx2, rfl⟩ := e2
  clear hx1 hx2
  rw [hn] at hl1
  rw [hm] at hl2
  generalize wc.heap.size + 1 + 1 = bt at *
  generalize wc.heap.size + 1 = bs at *
  generalize wc.heap.size = bm at *
  go_wp2
  go_loopw [12, 13] (fun l i wr => ∃ j q : Nat, j ≤ n ∧ i = .int .i64 (j : Nat) ∧ l = .int .i64 ((firsts s1 s2 j).length : Nat) ∧ wr = w2.drewN q) (fun _ i _ => n - (intOf i).toNat)
  case atStart => exact ⟨0, 0, Nat.zero_le _, rfl, rfl, rfl⟩
  case round =>
    obtain ⟨j, q, hj, rfl, rfl, hwr⟩ := hrel
    have SW := S'.drewN q
    rw [← hwr] at SW
    have hturW : ∀ j, j < n → wr.cell? ⟨bt, j, none⟩ = some (.pointer (some ⟨tb j, 0, none⟩)) := fun j hj => by rw [hwr]; exact htur j hj
    by_cases hlt : j < n
    · have hlt' : (j : Int) < (n : Int) := by omega
      have hcW : ∀ a u, w2.cell? a = some u → wr.cell? a = some u := fun a u h => by rw [hwr]; exact h
      have HW : Hid (wr = w2.drewN q) := hwr
      clear hwr
      obtain ⟨ad, hix, hcell⟩ := str_at (c := c0) hn hs1 j hlt
      have hcell1 := hcW _ _ hcell
      obtain ⟨row, hrow⟩ : ∃ row, s1.getD j ByteArray.empty = row := ⟨_, rfl⟩
      have HR : Hid (wsOf s1 j = row) := hrow
      rw [hrow] at hcell1
      clear hrow hcell
      go_wp2
      go_loop [15, 16] (fun p i => ∃ k : Nat, k ≤ j ∧ i = .int .i64 k ∧ p = .int .i64 (cnt row (s1.take k) : Nat)) (fun _ i => j - (intOf i).toNat)
      case atStart => exact ⟨0, Nat.zero_le _, rfl, rfl⟩
      case round =>
        obtain ⟨k, hk, rfl, rfl⟩ := hrel
        by_cases hkj : k < j
        · have hkj' : (k : Int) < (j : Int) := by omega
          have hkn : (k : Int) < (n : Int) := by omega
          obtain ⟨ad1, hix1, hcell2⟩ := str_at (c := c0) hn hs1 k (by omega)
          have hcell3 := hcW _ _ hcell2
          have hcl := cnt_le row (s1.take k)
          have hlt2 : (s1.take k).length ≤ 4096 := by simp; omega
          clear hcell2
          obtain ⟨t, ht⟩ : ∃ t, s1.getD k ByteArray.empty = t := ⟨_, rfl⟩
          have HT : Hid (wsOf s1 k = t) := ht
          rw [ht] at hcell3
          clear ht
          cases he : (t.toList == row.toList)
          · have HC : Hid _ := cnt_no (wl := s1) (k := k) (by omega) HT.out he
            go_wp2
            go_round
            case rel => exact ⟨k + 1, by omega, by go_num, by rw [HC.out]⟩
            case measure => simp [intOf]; omega
          · have HC : Hid _ := cnt_yes (wl := s1) (k := k) (by omega) HT.out he
            go_wp2
            go_round
            case rel => exact ⟨k + 1, by omega, by go_num, by rw [HC.out]; go_num⟩
            case measure => simp [intOf]; omega
        · have hkj' : ¬ (k : Int) < (j : Int) := by omega
          obtain rfl : k = j := by omega
          have hpl := cnt_le row (s1.take k)
          have hpt : (s1.take k).length ≤ 4096 := by simp; omega
          have h1s : Hid (cnt row (s1.take (k + 1)) = cnt row (s1.take k) + 1) := by
            have := cnt_take_succ (wl := s1) (j := k) (by omega) row
            rw [if_pos HR.out.symm] at this
            exact this
          generalize hpos : cnt row (s1.take k) = pos at hpl h1s ⊢
          have HP : Hid (cnt row (s1.take k) = pos) := hpos
          clear hpos
          go_wp2
          go_loop [17, 18] (fun p i => ∃ i' : Nat, k + 1 ≤ i' ∧ i' ≤ n ∧ i = .int .i64 i' ∧ p = .int .i64 (cnt row (s1.take i') : Nat)) (fun _ i => n - (intOf i).toNat)
          case atStart => exact ⟨k + 1, Nat.le_refl _, hlt, by go_num, by rw [h1s.out]; go_num⟩
          case round =>
            obtain ⟨i, hi1, hi2, rfl, rfl⟩ := hrel
            by_cases hin : i < n
            · have hin' : (i : Int) < (n : Int) := by omega
              obtain ⟨ad1, hix1, hcell2⟩ := str_at (c := c0) hn hs1 i hin
              have hcell3 := hcW _ _ hcell2
              have hcl := cnt_le row (s1.take i)
              have hlt2 : (s1.take i).length ≤ 4096 := by simp; omega
              clear hcell2
              obtain ⟨t, ht⟩ : ∃ t, s1.getD i ByteArray.empty = t := ⟨_, rfl⟩
              have HT : Hid (wsOf s1 i = t) := ht
              rw [ht] at hcell3
              clear ht
              cases he : (t.toList == row.toList)
              · have HC : Hid _ := cnt_no (wl := s1) (k := i) (by omega) HT.out he
                go_wp2
                go_round
                case rel => exact ⟨i + 1, by omega, by omega, by go_num, by rw [HC.out]⟩
                case measure => simp [intOf]; omega
              · have HC : Hid _ := cnt_yes (wl := s1) (k := i) (by omega) HT.out he
                go_wp2
                go_round
                case rel => exact ⟨i + 1, by omega, by omega, by go_num, by rw [HC.out]; go_num⟩
                case measure => simp [intOf]; omega
            · have hin' : ¬ (i : Int) < (n : Int) := by omega
              have hin2 : i = n := by omega
              have hal := cnt_le row s1
              rw [hn] at hal
              have e1 : s1.take i = s1 := by rw [hin2, ← hn, List.take_length]
              rw [e1]
              clear e1 hin2
              generalize harr : cnt row s1 = arr at hal ⊢
              have HA : Hid (cnt row s1 = arr) := harr
              clear harr
              go_wp2
              go_loop [19, 20] (fun p i => ∃ i' : Nat, i' ≤ m ∧ i = .int .i64 i' ∧ p = .int .i64 (cnt row (s2.take i') : Nat)) (fun _ i => m - (intOf i).toNat)
              case atStart => exact ⟨0, Nat.zero_le _, rfl, rfl⟩
              case round =>
                obtain ⟨d, hd2, rfl, rfl⟩ := hrel
                by_cases hdm : d < m
                · have hdm' : (d : Int) < (m : Int) := by omega
                  obtain ⟨ad1, hix1, hcell2⟩ := str_at (c := c1) hm hs2 d hdm
                  have hcell3 := hcW _ _ hcell2
                  have hcl := cnt_le row (s2.take d)
                  have hlt2 : (s2.take d).length ≤ 4096 := by simp; omega
                  clear hcell2
                  obtain ⟨t, ht⟩ : ∃ t, s2.getD d ByteArray.empty = t := ⟨_, rfl⟩
                  have HT : Hid (wsOf s2 d = t) := ht
                  rw [ht] at hcell3
                  clear ht
                  cases he : (t.toList == row.toList)
                  · have HC : Hid _ := cnt_no (wl := s2) (k := d) (by omega) HT.out he
                    go_wp2
                    go_round
                    case rel => exact ⟨d + 1, by omega, by go_num, by rw [HC.out]⟩
                    case measure => simp [intOf]; omega
                  · have HC : Hid _ := cnt_yes (wl := s2) (k := d) (by omega) HT.out he
                    go_wp2
                    go_round
                    case rel => exact ⟨d + 1, by omega, by go_num, by rw [HC.out]; go_num⟩
                    case measure => simp [intOf]; omega
                · have hdm' : ¬ (d : Int) < (m : Int) := by omega
                  have hdm2 : d = m := by omega
                  have hll := cnt_le row s2
                  rw [hm] at hll
                  have e1 : s2.take d = s2 := by rw [hdm2, ← hm, List.take_length]
                  rw [e1]
                  clear e1 hdm2
                  generalize hlet : cnt row s2 = lets at hll ⊢
                  have HL : Hid (cnt row s2 = lets) := hlet
                  clear hlet
                  obtain ⟨f1, f2, f3, f4⟩ := facts hd (by omega) HR.out HP.out HA.out HL.out
                  obtain ⟨g, hg⟩ : ∃ g : Nat, min arr lets = g := ⟨_, rfl⟩
                  obtain ⟨r, hr⟩ : ∃ r : Nat, arr - lets = r := ⟨_, rfl⟩
                  have hmin : min (arr : Int) (lets : Int) = (g : Int) := by omega
                  have hrem : (arr : Int) - (g : Int) = (r : Int) := by omega
                  have hrb : r ≤ 4096 := by omega
                  rw [hr] at f2
                  have hturk := hturW k hlt
                  have T : Hid (Calls Try.prog 14 #[.pointer (some ⟨tb k, 0, none⟩)] wr fun e w' => e = .returned (.bool (cl' k)) ∧ w' = wr) := turn_any SW k hlt
                  have L : Hid (Calls Try.prog 15 #[.pointer (some ⟨bs, 0, none⟩), .string row] wr fun e w' => e = .returned (.int .i64 (r : Nat)) ∧ w' = wr) := by
                    have := queueLen_any SW row
                    rw [f2] at this
                    exact this
                  have N : Hid (Calls Try.prog 16 #[.pointer (some ⟨bs, 0, none⟩), .string row] wr fun e w' => e = .returned (.bool (decide ((0 : Int) < (r : Int)))) ∧ w' = wr) := by
                    have := hasQueue_any SW row
                    rw [decide_eq_decide.2 (show Qf row X' ≠ [] ↔ (0 : Int) < (r : Int) from by rw [← f2]; cases Qf row X' <;> simp)] at this
                    exact this
                  generalize cl' k = ck at f1 T
                  have F1 : Hid _ := f1
                  have FS : Hid ((firsts s1 s2 (k + 1)).length = (firsts s1 s2 k).length + if pos = 0 ∧ lets < arr then 1 else 0) := by
                    have := firsts_succ s1 s2 k
                    rw [HR.out, HP.out, HA.out, HL.out] at this
                    exact this
                  have hfl := firsts_le s1 s2 k
                  clear f1 f2 hd htur hs1 hs2 hcW hturW
                  by_cases hpl : pos < lets
                  · have hck : ck = true := by rw [F1.out]; simp [hpl]
                    have hpl' : (pos : Int) < (lets : Int) := by omega
                    have hge : decide (lets ≤ pos) = false := by simp; omega
                    subst hck
                    go_wp2_with fail
                    refine (min_any _ _ _).mono ?_
                    rintro e w' ⟨rfl, rfl⟩
                    go_wp2_with fail
                    refine T.out.mono ?_
                    rintro e w' ⟨rfl, rfl⟩
                    go_wp2_with fail
                    refine L.out.mono ?_
                    rintro e w' ⟨rfl, rfl⟩
                    go_wp2_with fail
                    refine N.out.mono ?_
                    rintro e w' ⟨rfl, rfl⟩
                    go_wp2_with fail
                    go_quiet (fail)
                    by_cases hz0 : pos = 0
                    · have hz1 : ((pos : Int) == 0) = true := by simp; omega
                      by_cases hz2 : lets < arr
                      · have hz3 : (0 : Int) < (r : Int) := by omega
                        have FS1 : Hid ((firsts s1 s2 (k + 1)).length = (firsts s1 s2 k).length + 1) := by rw [FS.out, if_pos ⟨hz0, hz2⟩]; rfl
                        clear hz0 FS
                        go_wp2
                        go_roundw
                        case rel => exact ⟨k + 1, q + nq, by omega, by go_num, by rw [FS1.out]; go_num, by rw [HW.out]; simp [World.drewN]; omega⟩
                        case measure => simp [intOf]; omega
                      · have hz3 : ¬ (0 : Int) < (r : Int) := by omega
                        have FS1 : Hid ((firsts s1 s2 (k + 1)).length = (firsts s1 s2 k).length) := by rw [FS.out, if_neg (fun h => hz2 h.2)]; rfl
                        clear hz0 FS
                        go_wp2
                        go_roundw
                        case rel => exact ⟨k + 1, q + nq, by omega, by go_num, by rw [FS1.out], by rw [HW.out]; simp [World.drewN]; omega⟩
                        case measure => simp [intOf]; omega
                    · have hz1 : ((pos : Int) == 0) = false := by simp; omega
                      have FS1 : Hid ((firsts s1 s2 (k + 1)).length = (firsts s1 s2 k).length) := by rw [FS.out, if_neg (fun h => hz0 h.1)]; rfl
                      clear FS
                      go_wp2
                      go_roundw
                      case rel => exact ⟨k + 1, q + nq, by omega, by go_num, by rw [FS1.out], by rw [HW.out]; simp [World.drewN]; omega⟩
                      case measure => simp [intOf]; omega
                  · have hck : ck = false := by rw [F1.out]; simp; omega
                    have hpl' : ¬ (pos : Int) < (lets : Int) := by omega
                    have hpl2 : (lets : Int) ≤ (pos : Int) := by omega
                    obtain ⟨dd, hdd⟩ : ∃ dd : Nat, pos - lets = dd := ⟨_, rfl⟩
                    have hsub : (pos : Int) - (g : Int) = (dd : Int) := by omega
                    have hat := f4 (by omega)
                    rw [hdd] at hat
                    obtain ⟨hdl, hde⟩ := List.getElem?_eq_some_iff.1 hat
                    have A : Hid (∀ x, Calls Try.prog 17 #[.pointer (some ⟨bs, 0, none⟩), .string row, .int .i64 dd] (wr.drewN x) fun e w' => e = .returned (.pointer (some ⟨tb k, 0, none⟩)) ∧ w' = wr.drewN x) := fun x => by
                      have := queueAt_any (SW.drewN x) row dd hdl
                      rw [hde] at this
                      exact this
                    subst hck
                    clear hat hdl hde f4
                    go_wp2_with fail
                    refine (min_any _ _ _).mono ?_
                    rintro e w' ⟨rfl, rfl⟩
                    go_wp2_with fail
                    refine T.out.mono ?_
                    rintro e w' ⟨rfl, rfl⟩
                    go_wp2_with fail
                    refine L.out.mono ?_
                    rintro e w' ⟨rfl, rfl⟩
                    go_wp2_with fail
                    refine N.out.mono ?_
                    rintro e w' ⟨rfl, rfl⟩
                    have hge : decide (lets ≤ pos) = true := by simp; omega
                    have hnp := neq_same ⟨tb k, 0, none⟩
                    go_wp2_with fail
                    go_quiet ((go_at_call 17; exact Calls.quiet_of_same (A.out _)))
                    by_cases hz0 : pos = 0
                    · have hz1 : ((pos : Int) == 0) = true := by simp; omega
                      have hz2 : lets < arr := by omega
                      have hz3 : (0 : Int) < (r : Int) := by omega
                      have FS1 : Hid ((firsts s1 s2 (k + 1)).length = (firsts s1 s2 k).length + 1) := by rw [FS.out, if_pos ⟨hz0, hz2⟩]; rfl
                      clear hz0 FS
                      go_wp2
                      go_roundw
                      case rel => exact ⟨k + 1, q + nq, by omega, by go_num, by rw [FS1.out]; go_num, by rw [HW.out]; simp [World.drewN]; omega⟩
                      case measure => simp [intOf]; omega
                    · have hz1 : ((pos : Int) == 0) = false := by simp; omega
                      have FS1 : Hid ((firsts s1 s2 (k + 1)).length = (firsts s1 s2 k).length) := by rw [FS.out, if_neg (fun h => hz0 h.1)]; rfl
                      clear FS
                      go_wp2
                      go_roundw
                      case rel => exact ⟨k + 1, q + nq, by omega, by go_num, by rw [FS1.out], by rw [HW.out]; simp [World.drewN]; omega⟩
                      case measure => simp [intOf]; omega
    · have hge : ¬ (j : Int) < (n : Int) := by omega
      have hjn : j = n := by omega
      have hcount : X'.length = (firsts s1 s2 n).length := by
        have h1 := firsts_count (wl := s1) (rs := s2) (nk := keys X') S'.nod (fun r => by
          rw [S'.keys_iff r]
          have := left_len hd r
          constructor
          · intro h
            have : 0 < (Qf r X').length := List.length_pos_iff.2 h
            omega
          · intro h e
            rw [e] at this
            simp at this
            omega)
        rw [hn] at h1
        simpa [keys] using h1
      rw [hjn]
      have R : Hid (Calls Try.prog 18 #[.pointer (some ⟨bs, 0, none⟩)] wr fun e w' => e = .returned (.int .i64 ((firsts s1 s2 n).length : Nat)) ∧ w' = wr) := by
        have := queueRows_any SW
        rw [hcount] at this
        exact this
      have HW : Hid (wr = w2.drewN q) := hwr
      clear hwr hcount hjn hd htur hs1 hs2 hturW SW S'
      have hge' : ¬ (n : Int) < (n : Int) := by omega
      generalize (firsts s1 s2 n).length = F at *
      go_wp2_with fail
      refine R.out.mono ?_
      rintro e w' ⟨rfl, rfl⟩
      go_wp2
      go_ret
      refine ⟨rfl, ?_⟩
      rw [HW.out]
      exact ⟨hBz.os, hBz.tape, hBz.output, hBz.size, hBz.block⟩
end Go.Proofs.Qxb6612990a
