/-
  The memory that LawS0557CLinked makes: a row of pointers and one block a node. Plain lemmas on worlds; no walk.
-/
import Derived.Deep.OwnRows
import Derived.Below
import Derived.Laws.NewBlocks
import Derived.Deep.Draws
namespace Go.Proofs.Ybulkkmy
open Go.RowKit

/-- An indentRun's three cells. -/
def nd (s : ByteArray) (n : Int) (p : Option Addr) : Nat → Value
  | 0 => .string s
  | 1 => .int .i64 n
  | _ => .pointer p

/-- The pointer to node j. -/
def pt (B j : Nat) : Addr := ⟨B + 1 + j, 0, none⟩

/-- BEHIND k ROUNDS OF THE FIRST LOOP: the row of pointers is laid up to k, the k nodes lie behind it, nothing old has turned. -/
def Laid (w : World) (L : Nat) (S : Nat → ByteArray) (K : Nat → Int) (k : Nat) (wr : World) : Prop :=
  wr.heap.size = w.heap.size + 1 + k ∧ wr.rowIs w.heap.size 42 L (fun j => if j < k then .pointer (some (pt w.heap.size j)) else .pointer none) ∧
    (∀ j, j < k → wr.rowIs (w.heap.size + 1 + j) 56 3 (nd (S j) (K j) none)) ∧ Below w.heap.size w wr

theorem laid_start (w : World) (L : Nat) (S : Nat → ByteArray) (K : Nat → Int) : Laid w L S K 0 (w.alloc (.cells (madeCells #[.pointer none] L) 42)) :=
  ⟨by simp, (World.rowIs_made w (.pointer none) L 42).congr (fun i _ => by simp), fun j hj => absurd hj (Nat.not_lt_zero _), (Below.refl _ _).alloc (Nat.le_refl _) _⟩

theorem laid_step {w wr : World} {L : Nat} {S : Nat → ByteArray} {K : Nat → Int} {k : Nat} (h : Laid w L S K k wr) :
    Laid w L S K (k + 1) ((wr.setCell ⟨w.heap.size, k, none⟩ (.pointer (some ⟨wr.heap.size, 0, none⟩))).alloc (.cells #[.string (S k), .int .i64 (K k), .pointer none] 56)) := by
  obtain ⟨hz, hr, hn, hb⟩ := h
  rw [← World.setCell_alloc_past _ _ _ _ hr.lt]
  refine ⟨by simp [hz]; omega, ((hr.alloc _).set k _).congr (fun j _ => ?_), fun j hj => ?_, (hb.alloc (by omega) _).setCell (Nat.le_refl _) _⟩
  · by_cases e : j = k
    · subst e; simp [pt, hz]
    · by_cases e' : j < k
      · have : j < k + 1 := by omega
        simp [e, e', this]
      · have : ¬ j < k + 1 := by omega
        simp [e, e', this]
  · refine World.rowIs.setOther ?_ (a := ⟨w.heap.size, k, none⟩) (by show w.heap.size + 1 + j ≠ w.heap.size; omega) _
    by_cases e : j = k
    · subst e
      have hnew := World.rowIs_alloc wr #[.string (S j), .int .i64 (K j), .pointer none] 56 (nd (S j) (K j) none) (fun i hi => by
        match i, hi with
        | 0, _ => rfl
        | 1, _ => rfl
        | 2, _ => rfl)
      rw [hz] at hnew
      exact hnew
    · exact (hn j (by omega)).alloc _

/-- BEHIND k ROUNDS OF THE SECOND LOOP: the first k nodes lead on. -/
def Tied (w : World) (L : Nat) (S : Nat → ByteArray) (K : Nat → Int) (k : Nat) (wr : World) : Prop :=
  wr.heap.size = w.heap.size + 1 + L ∧ wr.rowIs w.heap.size 42 L (fun j => .pointer (some (pt w.heap.size j))) ∧
    (∀ j, j < L → wr.rowIs (w.heap.size + 1 + j) 56 3 (nd (S j) (K j) (if j < k then some (pt w.heap.size (j + 1)) else none))) ∧ Below w.heap.size w wr

theorem tied_start {w wr : World} {L : Nat} {S : Nat → ByteArray} {K : Nat → Int} (h : Laid w L S K L wr) : Tied w L S K 0 wr := by
  obtain ⟨hz, hr, hn, hb⟩ := h
  exact ⟨hz, hr.congr (fun j hj => by simp [hj]), fun j hj => (hn j hj).congr (fun i _ => by simp), hb⟩

theorem tied_step {w wr : World} {L : Nat} {S : Nat → ByteArray} {K : Nat → Int} {k : Nat} (h : Tied w L S K k wr) :
    Tied w L S K (k + 1) (wr.setCell ⟨w.heap.size + 1 + k, 2, none⟩ (.pointer (some ⟨w.heap.size + 1 + (k + 1), 0, none⟩))) := by
  obtain ⟨hz, hr, hn, hb⟩ := h
  refine ⟨by simpa using hz, hr.setOther (a := ⟨w.heap.size + 1 + k, 2, none⟩) (by show w.heap.size ≠ w.heap.size + 1 + k; omega) _, fun j hj => ?_, hb.setCell (by show w.heap.size ≤ w.heap.size + 1 + k; omega) _⟩
  by_cases e : j = k
  · subst e
    refine ((hn j hj).set 2 _).congr (fun i hi => ?_)
    match i, hi with
    | 0, _ => rfl
    | 1, _ => rfl
    | 2, _ => simp [nd, pt]
  · refine (World.rowIs.setOther (hn j hj) (a := ⟨w.heap.size + 1 + k, 2, none⟩) (by show w.heap.size + 1 + j ≠ w.heap.size + 1 + k; omega) _).congr (fun i _ => ?_)
    have e1 : (j < k + 1) = (j < k) := by simp; omega
    simp only [e1]

theorem tied_drew {w wr : World} {L : Nat} {S : Nat → ByteArray} {K : Nat → Int} {k : Nat} (h : Tied w L S K k wr) : Tied w L S K k wr.drew := by
  obtain ⟨hz, hr, hn, hb⟩ := h
  exact ⟨hz, hr.drew, fun j hj => (hn j hj).drew, hb.drew⟩

/-- BEHIND THE SECOND LOOP, the list laid beside (in block q): what the third loop reads. -/
def Done (w : World) (L : Nat) (S : Nat → ByteArray) (K : Nat → Int) (q : Nat) (wr : World) : Prop :=
  wr.rowIs w.heap.size 42 L (fun j => .pointer (some (pt w.heap.size j))) ∧
    (∀ j, j < L → wr.rowIs (w.heap.size + 1 + j) 56 3 (nd (S j) (K j) (if j + 1 < L then some (pt w.heap.size (j + 1)) else none))) ∧
    wr.cell? ⟨q, 2, none⟩ = some (.pointer (some ⟨w.heap.size + 1, 0, none⟩)) ∧ wr.cell? ⟨q, 3, none⟩ = some (.pointer (some ⟨w.heap.size + 1 + (L - 1), 0, none⟩)) ∧ Below w.heap.size w wr

theorem done_of {w wr : World} {L : Nat} {S : Nat → ByteArray} {K : Nat → Int} (k : Nat) (hk : k + 1 = L) (h : Tied w L S K k wr) (s : ByteArray) (n : Int) :
    Done w L S K wr.heap.size (wr.alloc (.cells #[.string s, .int .i64 n, .pointer (some ⟨w.heap.size + 1, 0, none⟩), .pointer (some ⟨w.heap.size + 1 + (L - 1), 0, none⟩)] 44)).drew := by
  obtain ⟨hz, hr, hn, hb⟩ := h
  refine ⟨hr.alloc _, fun j hj => ((hn j hj).alloc _).congr (fun i _ => ?_), by simp, by simp, (hb.alloc (by omega) _).drew⟩
  have e1 : (j < k) = (j + 1 < L) := by simp; omega
  simp only [e1]

theorem done_drewN {w wr : World} {L : Nat} {S : Nat → ByteArray} {K : Nat → Int} {q : Nat} (n : Nat) (h : Done w L S K q wr) : Done w L S K q (wr.drewN n) := by
  obtain ⟨hr, hn, h2, h3, hb⟩ := h
  exact ⟨hr, hn, h2, h3, ⟨hb.os, hb.tape, hb.output, hb.size, hb.block⟩⟩
end Go.Proofs.Ybulkkmy
