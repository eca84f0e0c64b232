/-
  Shared by the two laws over '(*duty).pass' (function 5): the walk of 'pass' in its two ways, and the plain arithmetic on 64-bit words.
-/
import Derived.Test.YbulkkliRows
import Derived.WalkKit
import Derived.Lib.Zigzag
namespace Go.Proofs.Ybulkkli
open Go.RowKit

/-! ### 'pass' (function 5) on a duty that lies in the newest block, as both laws call it -/
/-- 'head-d.since < window': nothing is turned, false comes back. -/
theorem pass_no (k s h n : Int) (w : World) (hlt : IntKind.u64.wrap (h - s) < n) :
    Calls Yba.prog 5 #[.pointer (some ⟨w.heap.size, 0, none⟩), .int .u64 h, .int .u64 n] (w.alloc (.cells #[.int .u64 k, .int .u64 s] 24)) fun e w' => e = .returned (.bool false) ∧
      w' = w.alloc (.cells #[.int .u64 k, .int .u64 s] 24) := by
  go_enter Yba.func5, Yba.ntmps5
  go_wp2
  go_ret
  exact ⟨rfl, rfl⟩

/-- Else: the two cells are written, true comes back. -/
theorem pass_yes (k s h n : Int) (w : World) (hlt : ¬ IntKind.u64.wrap (h - s) < n) :
    Calls Yba.prog 5 #[.pointer (some ⟨w.heap.size, 0, none⟩), .int .u64 h, .int .u64 n] (w.alloc (.cells #[.int .u64 k, .int .u64 s] 24)) fun e w' => e = .returned (.bool true) ∧
      w' = w.alloc (.cells #[.int .u64 (IntKind.u64.wrap (k + 1)), .int .u64 h] 24) := by
  go_enter Yba.func5, Yba.ntmps5
  go_wp2
  go_ret
  exact ⟨rfl, rfl⟩

/-- The same two ways where nothing wraps. -/
theorem pass_no_small (k s h n : Int) (w : World) (h0 : 0 ≤ h - s) (h1 : h - s < 18446744073709551616) (hlt : h - s < n) :
    Calls Yba.prog 5 #[.pointer (some ⟨w.heap.size, 0, none⟩), .int .u64 h, .int .u64 n] (w.alloc (.cells #[.int .u64 k, .int .u64 s] 24)) fun e w' => e = .returned (.bool false) ∧
      w' = w.alloc (.cells #[.int .u64 k, .int .u64 s] 24) :=
  pass_no k s h n w (by rw [IntKind.wrap_u64, Int.emod_eq_of_lt h0 h1]; exact hlt)
theorem pass_yes_small (k s h n : Int) (w : World) (h0 : 0 ≤ h - s) (h1 : h - s < 18446744073709551616) (k0 : 0 ≤ k) (k1 : k < 18446744073709551615) (hlt : ¬ h - s < n) :
    Calls Yba.prog 5 #[.pointer (some ⟨w.heap.size, 0, none⟩), .int .u64 h, .int .u64 n] (w.alloc (.cells #[.int .u64 k, .int .u64 s] 24)) fun e w' => e = .returned (.bool true) ∧
      w' = w.alloc (.cells #[.int .u64 (k + 1), .int .u64 h] 24) := by
  have e1 : IntKind.u64.wrap (k + 1) = k + 1 := by rw [IntKind.wrap_u64]; omega
  have c := pass_yes k s h n w (by rw [IntKind.wrap_u64, Int.emod_eq_of_lt h0 h1]; exact hlt)
  rw [e1] at c
  exact c

/-- 'head + ^since + 1' is 'head - since', on 64 bits. -/
theorem not_u64 (a : Int) (h0 : 0 ≤ a) (h1 : a ≤ 18446744073709551615) : bits .xor .u64 IntKind.u64.max a = 18446744073709551615 - a := by
  obtain ⟨n, rfl⟩ := Int.eq_ofNat_of_zero_le h0
  have e2 : IntKind.u64.max = ((2 ^ 64 - 1 : Nat) : Int) := by decide
  have hn : n < 2 ^ 64 := by omega
  rw [e2, bits_xor_u64_nat _ _ (by decide) hn, Lib.xor_ones64 _ hn]
  omega
theorem gap_u64 (h a : Int) (h0 : 0 ≤ a) (h1 : a ≤ 18446744073709551615) :
    IntKind.u64.wrap (IntKind.u64.wrap (h + bits .xor .u64 IntKind.u64.max a) + 1) = IntKind.u64.wrap (h - a) := by
  rw [not_u64 a h0 h1, IntKind.wrap_u64, IntKind.wrap_u64, IntKind.wrap_u64]
  omega

/-- 'zzs0554cgap' (function 6): the distance on the clock of 2^64, whichever way round. -/
theorem gap_any (h a : Int) (w : World) (h0 : 0 ≤ a) (h1 : a ≤ 18446744073709551615) :
    Calls Yba.prog 6 #[.int .u64 h, .int .u64 a] w fun e w' => e = .returned (.int .u64 (IntKind.u64.wrap (h - a))) ∧ w' = w := by
  by_cases c : a ≤ h
  · go_enter Yba.func6, Yba.ntmps6
    go_wp2
    go_ret
    exact ⟨rfl, rfl⟩
  · have hg := gap_u64 h a h0 h1
    go_enter Yba.func6, Yba.ntmps6
    go_wp2
    go_ret
    exact ⟨rfl, rfl⟩
end Go.Proofs.Ybulkkli
