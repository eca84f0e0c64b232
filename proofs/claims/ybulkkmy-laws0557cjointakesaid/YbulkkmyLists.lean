/-
  The memory of LawS0557CJoinTake: a list in a block of its own, its two runs behind it. Plain lemmas on worlds; no walk.
-/
import Derived.Test.YbulkkmyNodes
namespace Go.Proofs.Ybulkkmy
open Go.RowKit

/-- An indentList's four cells. -/
def ls (s : ByteArray) (n : Int) (h t : Option Addr) : Nat → Value
  | 0 => .string s
  | 1 => .int .i64 n
  | 2 => .pointer h
  | _ => .pointer t

theorem ls_new (w : World) (s : ByteArray) (n : Int) (h t : Option Addr) : (w.alloc (.cells #[.string s, .int .i64 n, .pointer h, .pointer t] 44)).rowIs w.heap.size 44 4 (ls s n h t) :=
  World.rowIs_alloc w #[.string s, .int .i64 n, .pointer h, .pointer t] 44 (ls s n h t) (fun i hi => by
    match i, hi with
    | 0, _ => rfl
    | 1, _ => rfl
    | 2, _ => rfl
    | 3, _ => rfl)
theorem nd_new (w : World) (s : ByteArray) (n : Int) (p : Option Addr) : (w.alloc (.cells #[.string s, .int .i64 n, .pointer p] 56)).rowIs w.heap.size 56 3 (nd s n p) :=
  World.rowIs_alloc w #[.string s, .int .i64 n, .pointer p] 56 (nd s n p) (fun i hi => by
    match i, hi with
    | 0, _ => rfl
    | 1, _ => rfl
    | 2, _ => rfl)

/-- A LIST OF TWO RUNS: the list in block b, its runs in blocks x and y (different ones), the head as it stands. -/
def Two (w : World) (b x y : Nat) (h : Option Addr) (s t : ByteArray) (n m : Int) (W : World) : Prop :=
  W.rowIs b 44 4 (ls { data := #[] } 0 h (some ⟨y, 0, none⟩)) ∧ W.rowIs x 56 3 (nd s n (some ⟨y, 0, none⟩)) ∧ W.rowIs y 56 3 (nd t m none) ∧ b < x ∧ x < y ∧ Below b w W

/-- join, the runs different: ahead of its stores. -/
def Mid (w : World) (b x y : Nat) (s t : ByteArray) (n m : Int) (W : World) : Prop :=
  W.rowIs b 44 4 (ls s n none none) ∧ W.rowIs x 56 3 (nd s n none) ∧ W.rowIs y 56 3 (nd t m none) ∧ b < x ∧ x < y ∧ Below b w W

theorem mid_of {w : World} {b : Nat} {s t : ByteArray} {n m : Int} (h : w.rowIs b 44 4 (ls s n none none)) (i j : Nat) :
    Mid w b (w.heap.size + 1) (w.heap.size + 1 + 1) s t n m
      (((((w.alloc (.cells #[.string t, .int .i64 m, .pointer none, .pointer none] 44)).alloc (.cells #[.string s, .int .i64 n, .pointer none] 56)).alloc (.cells #[.string t, .int .i64 m, .pointer none] 56)).drewN i).drewN j) := by
  have hb := h.lt
  refine ⟨((h.alloc _).alloc _).alloc _, ?_, ?_, by omega, by omega, ?_⟩
  · have := nd_new (w.alloc (.cells #[.string t, .int .i64 m, .pointer none, .pointer none] 44)) s n none
    rw [World.size_alloc] at this
    exact this.alloc _
  · have := nd_new ((w.alloc (.cells #[.string t, .int .i64 m, .pointer none, .pointer none] 44)).alloc (.cells #[.string s, .int .i64 n, .pointer none] 56)) t m none
    rw [World.size_alloc, World.size_alloc] at this
    exact this
  · have hB : Below b w (((w.alloc (.cells #[.string t, .int .i64 m, .pointer none, .pointer none] 44)).alloc (.cells #[.string s, .int .i64 n, .pointer none] 56)).alloc (.cells #[.string t, .int .i64 m, .pointer none] 56)) :=
      (((Below.refl _ _).alloc (by omega) _).alloc (by simp; omega) _).alloc (by simp; omega) _
    exact ⟨hB.os, hB.tape, hB.output, hB.size, hB.block⟩

theorem two_of {w W : World} {b x y : Nat} {s t : ByteArray} {n m : Int} (h : Mid w b x y s t n m W) :
    Two w b x y (some ⟨x, 0, none⟩) s t n m
      (((((W.setCell ⟨x, 2, none⟩ (.pointer (some ⟨y, 0, none⟩))).setCell ⟨b, 0, none⟩ (.string { data := #[] })).setCell ⟨b, 1, none⟩ (.int .i64 0)).setCell ⟨b, 2, none⟩ (.pointer (some ⟨x, 0, none⟩))).setCell ⟨b, 3, none⟩ (.pointer (some ⟨y, 0, none⟩))) := by
  obtain ⟨hb, hx, hy, bx, xy, hB⟩ := h
  refine ⟨?_, ?_, ?_, bx, xy, ?_⟩
  · refine (((((hb.setOther (a := ⟨x, 2, none⟩) (by show b ≠ x; omega) _).set 0 _).set 1 _).set 2 _).set 3 _).congr (fun i hi => ?_)
    match i, hi with
    | 0, _ => rfl
    | 1, _ => rfl
    | 2, _ => rfl
    | 3, _ => rfl
  · refine ((((((hx.set 2 _).setOther (a := ⟨b, 0, none⟩) (by show x ≠ b; omega) _).setOther (a := ⟨b, 1, none⟩) (by show x ≠ b; omega) _).setOther (a := ⟨b, 2, none⟩) (by show x ≠ b; omega) _).setOther (a := ⟨b, 3, none⟩) (by show x ≠ b; omega) _)).congr (fun i hi => ?_)
    match i, hi with
    | 0, _ => rfl
    | 1, _ => rfl
    | 2, _ => rfl
  · exact ((((hy.setOther (a := ⟨x, 2, none⟩) (by show y ≠ x; omega) _).setOther (a := ⟨b, 0, none⟩) (by show y ≠ b; omega) _).setOther (a := ⟨b, 1, none⟩) (by show y ≠ b; omega) _).setOther (a := ⟨b, 2, none⟩) (by show y ≠ b; omega) _).setOther (a := ⟨b, 3, none⟩) (by show y ≠ b; omega) _
  · exact ((((hB.setCell (p := ⟨x, 2, none⟩) (by show b ≤ x; omega) _).setCell (p := ⟨b, 0, none⟩) (Nat.le_refl _) _).setCell (p := ⟨b, 1, none⟩) (Nat.le_refl _) _).setCell (p := ⟨b, 2, none⟩) (Nat.le_refl _) _).setCell (p := ⟨b, 3, none⟩) (Nat.le_refl _) _

/-! ### what take does to a list of two runs -/
theorem two_take_x {w W : World} {b x y : Nat} {h : Option Addr} {s t : ByteArray} {n m : Int} (k : Two w b x y h s t n m W) (n' : Int) : Two w b x y h s t n' m (W.setCell ⟨x, 1, none⟩ (.int .i64 n')) := by
  obtain ⟨hb, hx, hy, bx, xy, hB⟩ := k
  refine ⟨hb.setOther (a := ⟨x, 1, none⟩) (by show b ≠ x; omega) _, (hx.set 1 _).congr (fun i hi => ?_), hy.setOther (a := ⟨x, 1, none⟩) (by show y ≠ x; omega) _, bx, xy, hB.setCell (p := ⟨x, 1, none⟩) (by show b ≤ x; omega) _⟩
  match i, hi with
  | 0, _ => rfl
  | 1, _ => rfl
  | 2, _ => rfl
theorem two_take_y {w W : World} {b x y : Nat} {h : Option Addr} {s t : ByteArray} {n m : Int} (k : Two w b x y h s t n m W) (m' : Int) : Two w b x y h s t n m' (W.setCell ⟨y, 1, none⟩ (.int .i64 m')) := by
  obtain ⟨hb, hx, hy, bx, xy, hB⟩ := k
  refine ⟨hb.setOther (a := ⟨y, 1, none⟩) (by show b ≠ y; omega) _, hx.setOther (a := ⟨y, 1, none⟩) (by show x ≠ y; omega) _, (hy.set 1 _).congr (fun i hi => ?_), bx, xy, hB.setCell (p := ⟨y, 1, none⟩) (by show b ≤ y; omega) _⟩
  match i, hi with
  | 0, _ => rfl
  | 1, _ => rfl
  | 2, _ => rfl
theorem two_head {w W : World} {b x y : Nat} {h : Option Addr} {s t : ByteArray} {n m : Int} (k : Two w b x y h s t n m W) (h' : Option Addr) : Two w b x y h' s t n m (W.setCell ⟨b, 2, none⟩ (.pointer h')) := by
  obtain ⟨hb, hx, hy, bx, xy, hB⟩ := k
  refine ⟨(hb.set 2 _).congr (fun i hi => ?_), hx.setOther (a := ⟨b, 2, none⟩) (by show x ≠ b; omega) _, hy.setOther (a := ⟨b, 2, none⟩) (by show y ≠ b; omega) _, bx, xy, hB.setCell (p := ⟨b, 2, none⟩) (Nat.le_refl _) _⟩
  match i, hi with
  | 0, _ => rfl
  | 1, _ => rfl
  | 2, _ => rfl
  | 3, _ => rfl

/-- A LIST OF ONE RUN HELD BY VALUE. -/
def One (w : World) (b : Nat) (s : ByteArray) (n : Int) (W : World) : Prop := W.rowIs b 44 4 (ls s n none none) ∧ Below b w W
theorem one_set {w W : World} {b : Nat} {s : ByteArray} {n : Int} (k : One w b s n W) (n' : Int) : One w b s n' (W.setCell ⟨b, 1, none⟩ (.int .i64 n')) := by
  obtain ⟨hb, hB⟩ := k
  refine ⟨(hb.set 1 _).congr (fun i hi => ?_), hB.setCell (p := ⟨b, 1, none⟩) (Nat.le_refl _) _⟩
  match i, hi with
  | 0, _ => rfl
  | 1, _ => rfl
  | 2, _ => rfl
  | 3, _ => rfl
end Go.Proofs.Ybulkkmy
