/-
  Shared by the laws over indentList: the walk of '(*indentList).runs' (function 14) in its two ways.
-/
import Derived.Test.YbulkkmyRows
import Derived.WalkKit
import Derived.RegionTactic
import Derived.ChangeAlike
import Derived.Lib.Builder
namespace Go.Proofs.Ybulkkmy
open Go.RowKit

/-- A pointer to a run held against itself. -/
theorem info56 : ∃ j, Yba.prog.info? 56 = some j := Option.isSome_iff_exists.mp (by kernel_rfl)
theorem ptr_neq_same (a : Addr) (w : World) : (binOp .neq 42 (.pointer (some a)) (.pointer (some a))).run Yba.prog w = .ok (.bool false) w := by
  obtain ⟨j, hj⟩ := info56
  exact Lib.run_neq_ptr_same w a Yba.underlying42 hj
theorem ptr_eql_same (a : Addr) (w : World) : (binOp .eql 42 (.pointer (some a)) (.pointer (some a))).run Yba.prog w = .ok (.bool true) w := by
  obtain ⟨j, hj⟩ := info56
  exact run_eql_ptr_same w a Yba.underlying42 hj

/-- A list that holds its run by value: a new run is made of it, first and last. -/
theorem runs_val (b o : Nat) (s : ByteArray) (n : Int) (w : World) (c0 : w.cell? ⟨b, o, none⟩ = some (.string s)) (c1 : w.cell? ⟨b, o + 1, none⟩ = some (.int .i64 n)) (c2 : w.cell? ⟨b, o + 2, none⟩ = some (.pointer none)) :
    Calls Yba.prog 14 #[.pointer (some ⟨b, o, none⟩)] w fun e w' => e = .returned (.tuple #[.pointer (some ⟨w.heap.size, 0, none⟩), .pointer (some ⟨w.heap.size, 0, none⟩)]) ∧
      w' = (w.alloc (.cells #[.string s, .int .i64 n, .pointer none] 56)).drew := by
  go_enter Yba.func14, Yba.ntmps14
  go_wp2
  go_region
  all_goals
    go_wp2
    go_ret2
    exact ⟨rfl, rfl⟩

/-- A list with linked runs: its own head and tail. -/
theorem runs_link (b o : Nat) (h t : Addr) (w : World) (c0 : w.cell? ⟨b, o + 2, none⟩ = some (.pointer (some h))) (c1 : w.cell? ⟨b, o + 3, none⟩ = some (.pointer (some t))) :
    Calls Yba.prog 14 #[.pointer (some ⟨b, o, none⟩)] w fun e w' => e = .returned (.tuple #[.pointer (some h), .pointer (some t)]) ∧ w' = w.drew := by
  go_enter Yba.func14, Yba.ntmps14
  go_wp2
  go_region
  all_goals
    go_wp2
    go_ret2
    exact ⟨rfl, rfl⟩

/-- The first way at a list that lies in the newest block. -/
theorem runs_new (s : ByteArray) (n : Int) (w : World) :
    Calls Yba.prog 14 #[.pointer (some ⟨w.heap.size, 0, none⟩)] (w.alloc (.cells #[.string s, .int .i64 n, .pointer none, .pointer none] 44)) fun e w' =>
      e = .returned (.tuple #[.pointer (some ⟨w.heap.size + 1, 0, none⟩), .pointer (some ⟨w.heap.size + 1, 0, none⟩)]) ∧
      w' = ((w.alloc (.cells #[.string s, .int .i64 n, .pointer none, .pointer none] 44)).alloc (.cells #[.string s, .int .i64 n, .pointer none] 56)).drew := by
  have h := runs_val w.heap.size 0 s n (w.alloc (.cells #[.string s, .int .i64 n, .pointer none, .pointer none] 44)) (by simp) (by simp) (by simp)
  simpa using h
theorem runs_new_at (b : Nat) (s : ByteArray) (n : Int) (w : World) (hb : b = w.heap.size) :
    Calls Yba.prog 14 #[.pointer (some ⟨b, 0, none⟩)] (w.alloc (.cells #[.string s, .int .i64 n, .pointer none, .pointer none] 44)) fun e w' =>
      e = .returned (.tuple #[.pointer (some ⟨b + 1, 0, none⟩), .pointer (some ⟨b + 1, 0, none⟩)]) ∧
      w' = ((w.alloc (.cells #[.string s, .int .i64 n, .pointer none, .pointer none] 44)).alloc (.cells #[.string s, .int .i64 n, .pointer none] 56)).drew := by
  subst hb
  exact runs_new s n w

/-- The second way at a list that lies in the newest block. -/
theorem runs_link_new (s : ByteArray) (n : Int) (h t : Addr) (w : World) :
    Calls Yba.prog 14 #[.pointer (some ⟨w.heap.size, 0, none⟩)] (w.alloc (.cells #[.string s, .int .i64 n, .pointer (some h), .pointer (some t)] 44)) fun e w' =>
      e = .returned (.tuple #[.pointer (some h), .pointer (some t)]) ∧ w' = (w.alloc (.cells #[.string s, .int .i64 n, .pointer (some h), .pointer (some t)] 44)).drew :=
  runs_link w.heap.size 0 h t (w.alloc (.cells #[.string s, .int .i64 n, .pointer (some h), .pointer (some t)] 44)) (by simp) (by simp)
end Go.Proofs.Ybulkkmy
