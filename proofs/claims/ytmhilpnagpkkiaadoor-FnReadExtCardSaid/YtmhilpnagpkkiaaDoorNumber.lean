/- What the reference's helpers on numbers compute: 'number' reads bytes, the highest first; 'signed' lays the sign. Walked. Conditions: at most 8 bytes; sizes 1, 2, 4 and 8. -/
import Derived.Test.YtmhilpnagpkkiaaDoorPure
import Derived.Lib.EndianBits
namespace Go.Proofs.YtmhilpnagpkkiaaDoor
open Go Go.RowKit Go.Lib

theorem and1 (x : Int) (h0 : 0 ≤ x) (h1 : x < 18446744073709551616) : bits .and .u64 x 1 = x % 2 := by
  rw [u64_and x 1 h0 h1 (by omega) (by omega)]
  show ((x.toNat &&& 1 : Nat) : Int) = x % 2
  rw [nat_mask1]
  omega

set_option maxHeartbeats 400000 in
theorem signed_1_pos (n : Int) (w : World) (h0 : 0 ≤ n) (h1 : n < 128) : Calls Tryd.prog 27 #[.int .u64 n, .int .i64 1] w fun e w' => e = .returned (.int .u64 n) ∧ w = w' := by
  have ea : (bits .and .u64 (n / 128) 1 == 1) = false := by rw [and1 _ (by omega) (by omega)]; simp; omega
  go_enter Tryd.func27, Tryd.ntmps27
  go_wp2
  go_ret
  exact ⟨rfl, rfl⟩

set_option maxHeartbeats 1000000 in
theorem signed_1_neg (n : Int) (w : World) (h0 : 128 ≤ n) (h1 : n < 256) : Calls Tryd.prog 27 #[.int .u64 n, .int .i64 1] w fun e w' => e = .returned (.int .u64 (n + 18446744073709551360)) ∧ w = w' := by
  have ea : (bits .and .u64 (n / 128) 1 == 1) = true := by rw [and1 _ (by omega) (by omega)]; simp; omega
  have e1 : bits .or .u64 n 65280 = n + 65280 := by rw [u64_or8 _ _ (by omega) (by omega) (by omega) (by omega) (by omega)]
  have e2 : bits .or .u64 (n + 65280) 16711680 = n + 16776960 := by rw [u64_or16 _ _ (by omega) (by omega) (by omega) (by omega) (by omega)]; omega
  have e3 : bits .or .u64 (n + 16776960) 4278190080 = n + 4294967040 := by rw [u64_or24 _ _ (by omega) (by omega) (by omega) (by omega) (by omega)]; omega
  have e4 : bits .or .u64 (n + 4294967040) 1095216660480 = n + 1099511627520 := by rw [u64_or32 _ _ (by omega) (by omega) (by omega) (by omega) (by omega)]; omega
  have e5 : bits .or .u64 (n + 1099511627520) 280375465082880 = n + 281474976710400 := by rw [u64_or40 _ _ (by omega) (by omega) (by omega) (by omega) (by omega)]; omega
  have e6 : bits .or .u64 (n + 281474976710400) 71776119061217280 = n + 72057594037927680 := by rw [u64_or48 _ _ (by omega) (by omega) (by omega) (by omega) (by omega)]; omega
  have e7 : bits .or .u64 (n + 72057594037927680) 18374686479671623680 = n + 18446744073709551360 := by rw [u64_or56 _ _ (by omega) (by omega) (by omega) (by omega) (by omega)]; omega
  go_enter Tryd.func27, Tryd.ntmps27
  go_wp2
  refine wp_loop_rounds 8 ?_
  rw [rounds_succ]
  go_wp2
  rw [rounds_succ]
  go_wp2
  rw [rounds_succ]
  go_wp2
  rw [rounds_succ]
  go_wp2
  rw [rounds_succ]
  go_wp2
  rw [rounds_succ]
  go_wp2
  rw [rounds_succ]
  go_wp2
  rw [rounds_succ]
  go_wp2
  go_ret
  exact ⟨rfl, rfl⟩

set_option maxHeartbeats 400000 in
theorem signed_2_pos (n : Int) (w : World) (h0 : 0 ≤ n) (h1 : n < 32768) : Calls Tryd.prog 27 #[.int .u64 n, .int .i64 2] w fun e w' => e = .returned (.int .u64 n) ∧ w = w' := by
  have ea : (bits .and .u64 (n / 32768) 1 == 1) = false := by rw [and1 _ (by omega) (by omega)]; simp; omega
  go_enter Tryd.func27, Tryd.ntmps27
  go_wp2
  go_ret
  exact ⟨rfl, rfl⟩

set_option maxHeartbeats 1000000 in
theorem signed_2_neg (n : Int) (w : World) (h0 : 32768 ≤ n) (h1 : n < 65536) : Calls Tryd.prog 27 #[.int .u64 n, .int .i64 2] w fun e w' => e = .returned (.int .u64 (n + 18446744073709486080)) ∧ w = w' := by
  have ea : (bits .and .u64 (n / 32768) 1 == 1) = true := by rw [and1 _ (by omega) (by omega)]; simp; omega
  have e2 : bits .or .u64 n 16711680 = n + 16711680 := by rw [u64_or16 _ _ (by omega) (by omega) (by omega) (by omega) (by omega)]
  have e3 : bits .or .u64 (n + 16711680) 4278190080 = n + 4294901760 := by rw [u64_or24 _ _ (by omega) (by omega) (by omega) (by omega) (by omega)]; omega
  have e4 : bits .or .u64 (n + 4294901760) 1095216660480 = n + 1099511562240 := by rw [u64_or32 _ _ (by omega) (by omega) (by omega) (by omega) (by omega)]; omega
  have e5 : bits .or .u64 (n + 1099511562240) 280375465082880 = n + 281474976645120 := by rw [u64_or40 _ _ (by omega) (by omega) (by omega) (by omega) (by omega)]; omega
  have e6 : bits .or .u64 (n + 281474976645120) 71776119061217280 = n + 72057594037862400 := by rw [u64_or48 _ _ (by omega) (by omega) (by omega) (by omega) (by omega)]; omega
  have e7 : bits .or .u64 (n + 72057594037862400) 18374686479671623680 = n + 18446744073709486080 := by rw [u64_or56 _ _ (by omega) (by omega) (by omega) (by omega) (by omega)]; omega
  go_enter Tryd.func27, Tryd.ntmps27
  go_wp2
  refine wp_loop_rounds 7 ?_
  rw [rounds_succ]
  go_wp2
  rw [rounds_succ]
  go_wp2
  rw [rounds_succ]
  go_wp2
  rw [rounds_succ]
  go_wp2
  rw [rounds_succ]
  go_wp2
  rw [rounds_succ]
  go_wp2
  rw [rounds_succ]
  go_wp2
  go_ret
  exact ⟨rfl, rfl⟩

set_option maxHeartbeats 400000 in
theorem signed_4_pos (n : Int) (w : World) (h0 : 0 ≤ n) (h1 : n < 2147483648) : Calls Tryd.prog 27 #[.int .u64 n, .int .i64 4] w fun e w' => e = .returned (.int .u64 n) ∧ w = w' := by
  have ea : (bits .and .u64 (n / 2147483648) 1 == 1) = false := by rw [and1 _ (by omega) (by omega)]; simp; omega
  go_enter Tryd.func27, Tryd.ntmps27
  go_wp2
  go_ret
  exact ⟨rfl, rfl⟩

set_option maxHeartbeats 1000000 in
theorem signed_4_neg (n : Int) (w : World) (h0 : 2147483648 ≤ n) (h1 : n < 4294967296) : Calls Tryd.prog 27 #[.int .u64 n, .int .i64 4] w fun e w' => e = .returned (.int .u64 (n + 18446744069414584320)) ∧ w = w' := by
  have ea : (bits .and .u64 (n / 2147483648) 1 == 1) = true := by rw [and1 _ (by omega) (by omega)]; simp; omega
  have e4 : bits .or .u64 n 1095216660480 = n + 1095216660480 := by rw [u64_or32 _ _ (by omega) (by omega) (by omega) (by omega) (by omega)]
  have e5 : bits .or .u64 (n + 1095216660480) 280375465082880 = n + 281470681743360 := by rw [u64_or40 _ _ (by omega) (by omega) (by omega) (by omega) (by omega)]; omega
  have e6 : bits .or .u64 (n + 281470681743360) 71776119061217280 = n + 72057589742960640 := by rw [u64_or48 _ _ (by omega) (by omega) (by omega) (by omega) (by omega)]; omega
  have e7 : bits .or .u64 (n + 72057589742960640) 18374686479671623680 = n + 18446744069414584320 := by rw [u64_or56 _ _ (by omega) (by omega) (by omega) (by omega) (by omega)]; omega
  go_enter Tryd.func27, Tryd.ntmps27
  go_wp2
  refine wp_loop_rounds 5 ?_
  rw [rounds_succ]
  go_wp2
  rw [rounds_succ]
  go_wp2
  rw [rounds_succ]
  go_wp2
  rw [rounds_succ]
  go_wp2
  rw [rounds_succ]
  go_wp2
  go_ret
  exact ⟨rfl, rfl⟩

set_option maxHeartbeats 400000 in
theorem signed_8_pos (n : Int) (w : World) (h0 : 0 ≤ n) (h1 : n < 9223372036854775808) : Calls Tryd.prog 27 #[.int .u64 n, .int .i64 8] w fun e w' => e = .returned (.int .u64 n) ∧ w = w' := by
  have ea : (bits .and .u64 (n / 9223372036854775808) 1 == 1) = false := by rw [and1 _ (by omega) (by omega)]; simp; omega
  go_enter Tryd.func27, Tryd.ntmps27
  go_wp2
  go_ret
  exact ⟨rfl, rfl⟩

set_option maxHeartbeats 1000000 in
theorem signed_8_neg (n : Int) (w : World) (h0 : 9223372036854775808 ≤ n) (h1 : n < 18446744073709551616) : Calls Tryd.prog 27 #[.int .u64 n, .int .i64 8] w fun e w' => e = .returned (.int .u64 (n)) ∧ w = w' := by
  have ea : (bits .and .u64 (n / 9223372036854775808) 1 == 1) = true := by rw [and1 _ (by omega) (by omega)]; simp; omega
  go_enter Tryd.func27, Tryd.ntmps27
  go_wp2
  refine wp_loop_rounds 1 ?_
  rw [rounds_succ]
  go_wp2
  go_ret
  exact ⟨rfl, rfl⟩

/-- The 64-bit pattern of a number of k bytes with its sign. -/
def sgn (n : Int) (k : Int) : Int :=
  if k = 1 then (if n < 128 then n else n + 18446744073709551360)
  else if k = 2 then (if n < 32768 then n else n + 18446744073709486080)
  else if k = 4 then (if n < 2147483648 then n else n + 18446744069414584320)
  else n

/-- The first k bytes as one number, the highest first. -/
def numT (l : List Int) : Nat → Int
  | 0 => 0
  | k + 1 => numT l k * 256 + at_ l k
theorem numT_range {l : List Int} (h : Byts l) : ∀ k, 0 ≤ numT l k ∧ numT l k < 256 ^ k
  | 0 => by simp [numT]
  | k + 1 => by
    have := numT_range h k
    have := h.at_ k
    rw [numT, Int.pow_succ]
    omega
theorem pow_small (j : Nat) (h : j < 8) : (256 : Int) ^ j ≤ 72057594037927936 := by
  have : j = 0 ∨ j = 1 ∨ j = 2 ∨ j = 3 ∨ j = 4 ∨ j = 5 ∨ j = 6 ∨ j = 7 := by omega
  rcases this with rfl | rfl | rfl | rfl | rfl | rfl | rfl | rfl <;> decide

set_option maxHeartbeats 400000 in
theorem number_c (A : Option Addr) (n c : Nat) (l : List Int) (w : World) (hr : Rd w A l) (hn : l.length = n) (h8 : n ≤ 8) : Calls Tryd.prog 28 #[.slice A n c] w fun e w' => e = .returned (.int .u64 (numT l n)) ∧ w = w' := by
  have HN : Hid (l.length = n) := hn
  clear hn
  go_enter Tryd.func28, Tryd.ntmps28
  go_wp2
  go_loop [3, 8] (fun o i => ∃ j : Nat, j ≤ n ∧ i = .int .i64 j ∧ o = .int .u64 (numT l j)) (fun _ i => n - (intOf i).toNat)
  case atStart => exact ⟨0, Nat.zero_le _, rfl, rfl⟩
  case round =>
    obtain ⟨j, hj, rfl, rfl⟩ := hrel
    by_cases hlt : j < n
    · have hl0 : 0 < l.length := by have := HN.out; omega
      obtain ⟨g, o, rfl, -, -, hc⟩ := hr.open_ hl0
      have hcj := hc j (by have := HN.out; omega)
      clear hc hl0
      obtain ⟨x0, x1⟩ := hr.1.at_ j
      obtain ⟨r0, r1⟩ := numT_range hr.1 j
      have r2 : numT l j < 72057594037927936 := by have := pow_small j (by omega); omega
      clear r1
      have HT : Hid (numT l (j + 1) = numT l j * 256 + at_ l j) := rfl
      generalize numT l j = t at r0 r2 HT
      generalize at_ l j = x at hcj x0 x1 HT
      have e1 : bits .or .u64 (t * 256) x = t * 256 + x := by
        rw [show bits .or .u64 (t * 256) x = bits .or .u64 x (t * 256) by simp only [bits, BitVec.or_comm], u64_or8 _ _ (by omega) (by omega) (by omega) (by omega) (by omega)]
        omega
      go_wp2
      go_round
      case rel => exact ⟨j + 1, by omega, by go_num, by rw [HT.out]⟩
      case measure => simp [intOf]; omega
    · obtain rfl : j = n := by omega
      go_wp2
      go_ret
      exact ⟨rfl, rfl⟩

end Go.Proofs.YtmhilpnagpkkiaaDoor
