/-
  The walk of LawS0557BPlainPop (function 4), with zzs0557beq (11) and the two empties (12, 13).
-/
import Derived.Test.YbulkkmyStackWalks
import Derived.WalkSmall
import Derived.Deep.QuietTactic
import Derived.BigQuiet
namespace Go.Proofs.Ybulkkmy
open Go.RowKit

/-- The slice value's elements are the strings l. -/
def Strs (l : List ByteArray) (a : Option Addr) (W : World) : Prop := ∀ j, j < l.length → ∃ b o, a = some ⟨b, o, none⟩ ∧ W.cell? ⟨b, o + j, none⟩ = some (.string (l.getD j ByteArray.empty))

theorem beq_nil (a b : Option Addr) (c d : Nat) (W : World) : Calls Yba.prog 11 #[.slice a 0 c, .slice b 0 d] W fun e w' => e = .returned (.bool true) ∧ ∃ n, w' = W.drewN n := by
  go_enter Yba.func11, Yba.ntmps11
  go_wp2
  go_loop [13] (fun i => i = .int .i64 0) (fun _ => 0)
  case atStart => rfl
  case round =>
    subst hrel
    go_wp2
    go_ret
    exact ⟨rfl, 0, rfl⟩

theorem beq_some (l : List ByteArray) (b1 o1 b2 o2 L c d : Nat) (W : World) (hL1 : L ≤ 100000) (h1 : ∀ j, j < L → W.cell? ⟨b1, o1 + j, none⟩ = some (.string (l.getD j ByteArray.empty))) (h2 : ∀ j, j < L → W.cell? ⟨b2, o2 + j, none⟩ = some (.string (l.getD j ByteArray.empty))) :
    Calls Yba.prog 11 #[.slice (some ⟨b1, o1, none⟩) L c, .slice (some ⟨b2, o2, none⟩) L d] W fun e w' => e = .returned (.bool true) ∧ ∃ n, w' = W.drewN n := by
  go_enter Yba.func11, Yba.ntmps11
  go_wp2
  go_loopw [13] (fun i wr => ∃ k : Nat, k ≤ L ∧ i = .int .i64 k ∧ ∃ n, wr = W.drewN n) (fun i _ => L - (intOf i).toNat)
  case atStart => exact ⟨0, Nat.zero_le _, rfl, 0, rfl⟩
  case round =>
    obtain ⟨k, hk, rfl, n, rfl⟩ := hrel
    by_cases hlt : k < L
    · have g1 := h1 k hlt
      have g2 := h2 k hlt
      generalize l.getD k ByteArray.empty = s at g1 g2
      clear h1 h2
      go_wp2
      go_quiet (fail)
      go_wp2
      go_roundw
      case rel => exact ⟨k + 1, by omega, by go_num, _, rfl⟩
      case measure => simp [intOf]; omega
    · clear h1 h2
      go_wp2
      go_ret
      exact ⟨rfl, n, rfl⟩

/-- zzs0557beq over two slices of the same strings. -/
theorem beq_any (l : List ByteArray) (a b : Option Addr) (c d : Nat) (W : World) (hL : l.length ≤ 100000) (ha : Strs l a W) (hb : Strs l b W) :
    Calls Yba.prog 11 #[.slice a l.length c, .slice b l.length d] W fun e w' => e = .returned (.bool true) ∧ ∃ n, w' = W.drewN n := by
  by_cases h0 : l.length = 0
  · rw [h0]
    exact beq_nil a b c d W
  obtain ⟨b1, o1, rfl, _⟩ := ha 0 (by omega)
  obtain ⟨b2, o2, rfl, _⟩ := hb 0 (by omega)
  refine beq_some l b1 o1 b2 o2 l.length c d W hL (fun j hj => ?_) (fun j hj => ?_)
  · obtain ⟨b, o, e, h⟩ := ha j hj
    simp only [Option.some.injEq, Addr.mk.injEq, and_true] at e
    obtain ⟨rfl, rfl⟩ := e
    exact h
  · obtain ⟨b, o, e, h⟩ := hb j hj
    simp only [Option.some.injEq, Addr.mk.injEq, and_true] at e
    obtain ⟨rfl, rfl⟩ := e
    exact h

/-- s.indents.empty() and s.openClosed.empty() on a scanner that holds neither. -/
theorem indents_empty (B : Nat) (W : World) (c1 : W.cell? ⟨B, 11, none⟩ = some (.int .i64 0)) (c2 : W.cell? ⟨B, 12, none⟩ = some (.pointer none)) :
    Calls Yba.prog 12 #[.pointer (some ⟨B, 10, none⟩)] W fun e w' => e = .returned (.bool true) ∧ w' = W := by
  go_enter Yba.func12, Yba.ntmps12
  go_wp2
  go_ret
  exact ⟨rfl, rfl⟩
theorem closed_empty (B : Nat) (W : World) (c1 : W.cell? ⟨B, 8, none⟩ = some (.slice none 0 0)) :
    Calls Yba.prog 13 #[.pointer (some ⟨B, 8, none⟩)] W fun e w' => e = .returned (.bool true) ∧ w' = W := by
  go_enter Yba.func13, Yba.ntmps13
  go_wp2
  go_ret
  exact ⟨rfl, rfl⟩

/-! ### gathering -/
/-- WHILE THE RUNS ARE LAID OUT: the scanner, its runs, and what has been gathered. -/
def Fl (w : World) (B rb C : Nat) (rs : List (ByteArray × Nat)) (v : Value) (l : List ByteArray) (W : World) : Prop :=
  W.rowIs B 46 15 (sc (.slice (some ⟨rb, 0, none⟩) rs.length C)) ∧ Own rb C rs W ∧ W.ownsRow (B + 1) 9 1 v l.length (l.map .string) ∧ Below B w W

theorem ne_own {W : World} {base : Nat} {v : Value} {n : Nat} {xs : List Value} (h : W.ownsRow base 9 1 v n xs) {k : Nat} {c : Array Value} {t : TypeId} {fr : Nat × Nat} (hk : W.heap[k]? = some (.cells c t fr)) (ht : t ≠ 9) : some k ≠ v.ownBlock := by
  intro e
  rcases h.2 with ⟨rfl, _⟩ | ⟨g, cap, cur, rfl, _, hg, _⟩
  · simp [Value.ownBlock] at e
  · simp only [Value.ownBlock, Option.some.injEq] at e
    subst e
    rw [hg] at hk
    simp only [Option.some.injEq, Obj.cells.injEq] at hk
    exact ht hk.2.1.symm
theorem grown_keeps {W W' : World} {base : Nat} {v : Value} {n : Nat} {xs : List Value} (h : W.ownsRow base 9 1 v n xs) (hg : W.grownBy W' v.ownBlock) {k : Nat} {c : Array Value} {t : TypeId} {fr : Nat × Nat} (hk : W.heap[k]? = some (.cells c t fr)) (ht : t ≠ 9) : W'.heap[k]? = some (.cells c t fr) :=
  (hg.block k (Array.getElem?_eq_some_iff.1 hk).1 (ne_own h hk ht)).trans hk

theorem fl_alloc {w W : World} {B rb C : Nat} {rs : List (ByteArray × Nat)} {v : Value} {l : List ByteArray} (h : Fl w B rb C rs v l W) (o : Obj) : Fl w B rb C rs v l (W.alloc o) := by
  obtain ⟨hr, ho, hv, hb⟩ := h
  exact ⟨hr.alloc _, own_alloc ho _, hv.alloc _, hb.alloc (by have := hr.lt; omega) _⟩
theorem fl_append {w W W' : World} {B rb C : Nat} {rs : List (ByteArray × Nat)} {v v' : Value} {l : List ByteArray} {s : ByteArray} (h : Fl w B rb C rs v l W) (hg : W.grownBy W' v.ownBlock)
    (hv : W'.ownsRow (B + 1) 9 1 v' (l.length + 1) (l.map .string ++ [.string s])) : Fl w B rb C rs v' (l ++ [s]) W' := by
  obtain ⟨hr, ho, hv0, hb⟩ := h
  have hlt := hr.lt
  refine ⟨?_, ?_, ?_, ?_⟩
  · obtain ⟨c, hc, hn⟩ := hr
    exact ⟨c, grown_keeps hv0 hg hc (by decide), hn⟩
  · obtain ⟨rest, hc, hn⟩ := ho
    exact ⟨rest, grown_keeps hv0 hg hc (by decide), hn⟩
  · rw [List.length_append, List.map_append]; exact hv
  · exact hb.grown hg (by omega) (fun k hk => by have := (hv0.lt k hk).1; omega)
/-- The value gathered, as the comparison reads it. -/
theorem fl_strs {w W : World} {B rb C : Nat} {rs : List (ByteArray × Nat)} {v : Value} {l : List ByteArray} (h : Fl w B rb C rs v l W) : ∃ a c, v = .slice a l.length c ∧ Strs l a W := by
  obtain ⟨_, _, hv, _⟩ := h
  rcases hv.2 with ⟨rfl, h0⟩ | ⟨g, cap, cur, rfl, _, hg, _⟩
  · exact ⟨none, 0, by rw [h0], fun j hj => by omega⟩
  · refine ⟨_, cap, rfl, fun j hj => ⟨g, 0, rfl, ?_⟩⟩
    have := hv.cells (g := g) rfl j (.string (l.getD j ByteArray.empty)) (by simp [hj])
    rw [Go.WideShapes.add_plain] at this
    exact this
end Go.Proofs.Ybulkkmy
