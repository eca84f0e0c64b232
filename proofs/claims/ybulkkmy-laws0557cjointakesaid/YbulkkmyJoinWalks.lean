/-
  The walks of '(*indentList).empty' (12), '.take' (16) and '.join' (15), as LawS0557CJoinTake calls them.
-/
import Derived.Test.YbulkkmyRuns
import Derived.Test.YbulkkmyLists
import Derived.WalkSmall
import Derived.Deep.QuietTactic
import Derived.BigQuiet
namespace Go.Proofs.Ybulkkmy
open Go.RowKit

theorem alloc_drewN (w : World) (o : Obj) (n : Nat) : (w.drewN n).alloc o = (w.alloc o).drewN n := rfl
theorem setCell_drewN (w : World) (a : Addr) (v : Value) (n : Nat) : (w.drewN n).setCell a v = (w.setCell a v).drewN n := rfl
attribute [local go_sem] alloc_drewN setCell_drewN

theorem empty_n (b o : Nat) (n : Int) (w : World) (c1 : w.cell? ⟨b, o + 1, none⟩ = some (.int .i64 n)) (hn : (n == 0) = false) :
    Calls Yba.prog 12 #[.pointer (some ⟨b, o, none⟩)] w fun e w' => e = .returned (.bool false) ∧ w' = w := by
  go_enter Yba.func12, Yba.ntmps12
  go_wp2
  go_ret
  exact ⟨rfl, rfl⟩
theorem empty_0 (b o : Nat) (h : Option Addr) (w : World) (c1 : w.cell? ⟨b, o + 1, none⟩ = some (.int .i64 0)) (c2 : w.cell? ⟨b, o + 2, none⟩ = some (.pointer h)) :
    Calls Yba.prog 12 #[.pointer (some ⟨b, o, none⟩)] w fun e w' => e = .returned (.bool h.isNone) ∧ w' = w := by
  go_enter Yba.func12, Yba.ntmps12
  go_wp2
  go_ret
  exact ⟨rfl, rfl⟩
theorem take_val (b : Nat) (s : ByteArray) (n : Int) (w : World) (c0 : w.cell? ⟨b, 0, none⟩ = some (.string s)) (c1 : w.cell? ⟨b, 1, none⟩ = some (.int .i64 n)) (c2 : w.cell? ⟨b, 2, none⟩ = some (.pointer none))
    (f1 : w.frozen? ⟨b, 1, none⟩ = false) (h1 : 1 ≤ n) (h2 : n ≤ 1000) :
    Calls Yba.prog 16 #[.pointer (some ⟨b, 0, none⟩)] w fun e w' => e = .returned (.string s) ∧ w' = w.setCell ⟨b, 1, none⟩ (.int .i64 (n - 1)) := by
  go_enter Yba.func16, Yba.ntmps16
  go_wp2
  go_ret
  exact ⟨rfl, rfl⟩
theorem take_more (b h : Nat) (s : ByteArray) (n : Int) (w : World) (c2 : w.cell? ⟨b, 2, none⟩ = some (.pointer (some ⟨h, 0, none⟩))) (d0 : w.cell? ⟨h, 0, none⟩ = some (.string s)) (d1 : w.cell? ⟨h, 1, none⟩ = some (.int .i64 n))
    (f1 : w.frozen? ⟨h, 1, none⟩ = false) (h1 : 2 ≤ n) (h2 : n ≤ 1000) :
    Calls Yba.prog 16 #[.pointer (some ⟨b, 0, none⟩)] w fun e w' => e = .returned (.string s) ∧ w' = w.setCell ⟨h, 1, none⟩ (.int .i64 (n - 1)) := by
  go_enter Yba.func16, Yba.ntmps16
  go_wp2
  go_ret
  exact ⟨rfl, rfl⟩
theorem take_last (b h : Nat) (s : ByteArray) (nx : Option Addr) (w : World) (c2 : w.cell? ⟨b, 2, none⟩ = some (.pointer (some ⟨h, 0, none⟩))) (d0 : w.cell? ⟨h, 0, none⟩ = some (.string s)) (d1 : w.cell? ⟨h, 1, none⟩ = some (.int .i64 1))
    (d2 : w.cell? ⟨h, 2, none⟩ = some (.pointer nx)) (f1 : w.frozen? ⟨h, 1, none⟩ = false) (f2 : w.frozen? ⟨b, 2, none⟩ = false) :
    Calls Yba.prog 16 #[.pointer (some ⟨b, 0, none⟩)] w fun e w' => e = .returned (.string s) ∧ w' = (w.setCell ⟨h, 1, none⟩ (.int .i64 0)).setCell ⟨b, 2, none⟩ (.pointer nx) := by
  go_enter Yba.func16, Yba.ntmps16
  go_wp2
  go_ret
  exact ⟨rfl, rfl⟩

/-! ### the same over the two forms of a list -/
theorem one_empty {w W : World} {b : Nat} {s : ByteArray} {n : Int} (k : One w b s n W) (h1 : 1 ≤ n) :
    Calls Yba.prog 12 #[.pointer (some ⟨b, 0, none⟩)] W fun e w' => e = .returned (.bool false) ∧ w' = W :=
  empty_n b 0 n W (k.1.cell (i := 1) (by omega)) (by simp; omega)
theorem one_take {w W : World} {b : Nat} {s : ByteArray} {n : Int} (k : One w b s n W) (h1 : 1 ≤ n) (h2 : n ≤ 1000) :
    Calls Yba.prog 16 #[.pointer (some ⟨b, 0, none⟩)] W fun e w' => e = .returned (.string s) ∧ One w b s (n - 1) w' :=
  (take_val b s n W (k.1.cell (i := 0) (by omega)) (k.1.cell (i := 1) (by omega)) (k.1.cell (i := 2) (by omega)) (k.1.frozen 1) h1 h2).mono fun _ _ h => ⟨h.1, by rw [h.2]; exact one_set k _⟩
theorem one_end {w W : World} {b : Nat} {s : ByteArray} (k : One w b s 0 W) :
    Calls Yba.prog 12 #[.pointer (some ⟨b, 0, none⟩)] W fun e w' => e = .returned (.bool true) ∧ w' = W :=
  empty_0 b 0 none W (k.1.cell (i := 1) (by omega)) (k.1.cell (i := 2) (by omega))
theorem two_empty {w W : World} {b x y : Nat} {a : Addr} {s t : ByteArray} {n m : Int} (k : Two w b x y (some a) s t n m W) :
    Calls Yba.prog 12 #[.pointer (some ⟨b, 0, none⟩)] W fun e w' => e = .returned (.bool false) ∧ w' = W :=
  empty_0 b 0 (some a) W (k.1.cell (i := 1) (by omega)) (k.1.cell (i := 2) (by omega))
theorem two_end {w W : World} {b x y : Nat} {s t : ByteArray} {n m : Int} (k : Two w b x y none s t n m W) :
    Calls Yba.prog 12 #[.pointer (some ⟨b, 0, none⟩)] W fun e w' => e = .returned (.bool true) ∧ w' = W :=
  empty_0 b 0 none W (k.1.cell (i := 1) (by omega)) (k.1.cell (i := 2) (by omega))
/-- The head behind a take from the first run. -/
def hd1 (x y : Nat) (n : Int) : Option Addr := if 1 ≤ n then some ⟨x, 0, none⟩ else some ⟨y, 0, none⟩
/-- The head behind a take from the second run. -/
def hd2 (y : Nat) (n : Int) : Option Addr := if 1 ≤ n then some ⟨y, 0, none⟩ else none
theorem two_take1 {w W : World} {b x y : Nat} {s t : ByteArray} {n m : Int} (k : Two w b x y (hd1 x y n) s t n m W) (h1 : 1 ≤ n) (h2 : n ≤ 1000) :
    Calls Yba.prog 16 #[.pointer (some ⟨b, 0, none⟩)] W fun e w' => e = .returned (.string s) ∧ Two w b x y (hd1 x y (n - 1)) s t (n - 1) m w' := by
  have e1 : hd1 x y n = some ⟨x, 0, none⟩ := if_pos h1
  rw [e1] at k
  by_cases e : n = 1
  · subst e
    refine (take_last b x s (some ⟨y, 0, none⟩) W (k.1.cell (i := 2) (by omega)) (k.2.1.cell (i := 0) (by omega)) (k.2.1.cell (i := 1) (by omega)) (k.2.1.cell (i := 2) (by omega)) (k.2.1.frozen 1) (k.1.frozen 2)).mono fun _ _ h => ⟨h.1, ?_⟩
    rw [h.2]
    exact two_head (two_take_x k 0) _
  · refine (take_more b x s n W (k.1.cell (i := 2) (by omega)) (k.2.1.cell (i := 0) (by omega)) (k.2.1.cell (i := 1) (by omega)) (k.2.1.frozen 1) (by omega) h2).mono fun _ _ h => ⟨h.1, ?_⟩
    rw [h.2, show hd1 x y (n - 1) = some ⟨x, 0, none⟩ from if_pos (by omega)]
    exact two_take_x k _
theorem two_take2 {w W : World} {b x y : Nat} {s t : ByteArray} {n m : Int} (k : Two w b x y (hd2 y m) s t n m W) (h1 : 1 ≤ m) (h2 : m ≤ 1000) :
    Calls Yba.prog 16 #[.pointer (some ⟨b, 0, none⟩)] W fun e w' => e = .returned (.string t) ∧ Two w b x y (hd2 y (m - 1)) s t n (m - 1) w' := by
  have e1 : hd2 y m = some ⟨y, 0, none⟩ := if_pos h1
  rw [e1] at k
  by_cases e : m = 1
  · subst e
    refine (take_last b y t none W (k.1.cell (i := 2) (by omega)) (k.2.2.1.cell (i := 0) (by omega)) (k.2.2.1.cell (i := 1) (by omega)) (k.2.2.1.cell (i := 2) (by omega)) (k.2.2.1.frozen 1) (k.1.frozen 2)).mono fun _ _ h => ⟨h.1, ?_⟩
    rw [h.2]
    exact two_head (two_take_y k 0) _
  · refine (take_more b y t m W (k.1.cell (i := 2) (by omega)) (k.2.2.1.cell (i := 0) (by omega)) (k.2.2.1.cell (i := 1) (by omega)) (k.2.2.1.frozen 1) (by omega) h2).mono fun _ _ h => ⟨h.1, ?_⟩
    rw [h.2, show hd2 y (m - 1) = some ⟨y, 0, none⟩ from if_pos (by omega)]
    exact two_take_y k _

set_option maxRecDepth 100000 in
/-- join, the two runs equal: the counts add up. -/
theorem join_same (s : ByteArray) (n m : Int) (w : World) (h1 : 1 ≤ n) (h2 : n ≤ 100) (h3 : 1 ≤ m) (h4 : m ≤ 100) :
    Calls Yba.prog 15 #[.pointer (some ⟨w.heap.size, 0, none⟩), .agg #[.string s, .int .i64 m, .pointer none, .pointer none]] (w.alloc (.cells #[.string s, .int .i64 n, .pointer none, .pointer none] 44)) fun e w' =>
      e = .returned (.tuple #[]) ∧ One w w.heap.size s (n + m) w' := by
  have hn : (n == 0) = false := by simp; omega
  have hm : (m == 0) = false := by simp; omega
  go_enter Yba.func15, Yba.ntmps15
  go_wp2
  go_quiet (fail)
  go_wp2
  go_region
  all_goals
    go_wp2
    refine bodyPost_ret (results_none rfl _ _ _) rfl ?_
    exact ⟨rfl, (ls_new w s (n + m) none none).alloc _, below_drewN (((Below.refl _ _).alloc (Nat.le_refl _) _).alloc (by simp) _) _⟩

set_option maxRecDepth 100000 in
/-- join, the two runs different: the list leads to both. -/
theorem join_diff (b : Nat) (s t : ByteArray) (n m : Int) (w : World) (h1 : 1 ≤ n) (h3 : 1 ≤ m) (hne : (s.toList == t.toList) = false) (hr : w.rowIs b 44 4 (ls s n none none)) :
    Calls Yba.prog 15 #[.pointer (some ⟨b, 0, none⟩), .agg #[.string t, .int .i64 m, .pointer none, .pointer none]] w fun e w' =>
      e = .returned (.tuple #[]) ∧ Two w b (w.heap.size + 1) (w.heap.size + 1 + 1) (some ⟨w.heap.size + 1, 0, none⟩) s t n m w' := by
  have hn : (n == 0) = false := by simp; omega
  have hm : (m == 0) = false := by simp; omega
  have hb := hr.lt
  have c0 : w.cell? ⟨b, 0, none⟩ = some (.string s) := hr.cell (i := 0) (by omega)
  have c1 : w.cell? ⟨b, 1, none⟩ = some (.int .i64 n) := hr.cell (i := 1) (by omega)
  have c2 : w.cell? ⟨b, 2, none⟩ = some (.pointer none) := hr.cell (i := 2) (by omega)
  go_enter Yba.func15, Yba.ntmps15
  go_wp2_with fail
  refine (empty_n w.heap.size 0 m _ (by go_simp) hm).mono ?_
  rintro e w' ⟨rfl, rfl⟩
  go_wp2_with fail
  refine (empty_n b 0 n _ (by go_simp) hn).mono ?_
  rintro e w' ⟨rfl, rfl⟩
  go_wp2_with fail
  go_quiet (fail)
  go_wp2_with fail
  refine (runs_val b 0 s n _ (by go_simp) (by go_simp) (by go_simp)).mono ?_
  rintro e w' ⟨rfl, rfl⟩
  go_wp2_with fail
  refine (runs_val w.heap.size 0 t m _ (by go_simp) (by go_simp) (by go_simp)).mono ?_
  rintro e w' ⟨rfl, rfl⟩
  go_wp2_with fail
  go_quiet (fail)
  generalize hW : World.drewN _ _ = W
  have hmid : Mid w b (w.heap.size + 1) (w.heap.size + 1 + 1) s t n m W := by rw [← hW]; exact mid_of hr _ _
  clear hW c0 c1 c2 hr
  have d0 : W.cell? ⟨b, 0, none⟩ = some (.string s) := hmid.1.cell (i := 0) (by omega)
  have d1 : W.cell? ⟨b, 1, none⟩ = some (.int .i64 n) := hmid.1.cell (i := 1) (by omega)
  have d2 : W.cell? ⟨b, 2, none⟩ = some (.pointer none) := hmid.1.cell (i := 2) (by omega)
  have d3 : W.cell? ⟨b, 3, none⟩ = some (.pointer none) := hmid.1.cell (i := 3) (by omega)
  have g0 := hmid.1.frozen 0
  have g1 := hmid.1.frozen 1
  have g2 := hmid.1.frozen 2
  have g3 := hmid.1.frozen 3
  have x2 : W.cell? ⟨w.heap.size + 1, 2, none⟩ = some (.pointer none) := hmid.2.1.cell (i := 2) (by omega)
  have xf := hmid.2.1.frozen 2
  have ne1 : ¬ w.heap.size + 1 = b := by omega
  have ne2 : ¬ b = w.heap.size + 1 := by omega
  go_wp2
  go_end0
  exact ⟨rfl, two_of hmid⟩
end Go.Proofs.Ybulkkmy
