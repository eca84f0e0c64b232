/-
  The memory of openStack[string] as LawS0557BPlainPop uses it: the runs in a row of their own, two cells a run; the scanner's struct with the slice's header in its cell 7. Plain lemmas on lists and worlds; no walk.
-/
import Derived.Deep.OwnRows
import Derived.Laws.CopyRow
import Derived.Laws.AppendOwn
import Derived.Laws.CopyOwn
import Derived.Below
namespace Go.Proofs.Ybulkkmy
open Go.RowKit

/-! ### the runs as lists -/
/-- The cells of a list of runs. -/
def flat (rs : List (ByteArray × Nat)) : List Value := rs.flatMap fun r => [.string r.1, .int .i64 r.2]
/-- The levels that the runs stand for. -/
def expand (rs : List (ByteArray × Nat)) : List ByteArray := rs.flatMap fun r => List.replicate r.2 r.1
/-- Every run is at least of one. -/
def Good (rs : List (ByteArray × Nat)) : Prop := ∀ r ∈ rs, 1 ≤ r.2

theorem flat_nil : flat [] = [] := rfl
theorem flat_cons (r : ByteArray × Nat) (rs : List (ByteArray × Nat)) : flat (r :: rs) = .string r.1 :: .int .i64 r.2 :: flat rs := rfl
theorem flat_append (a b : List (ByteArray × Nat)) : flat (a ++ b) = flat a ++ flat b := by simp [flat]
theorem flat_length (rs : List (ByteArray × Nat)) : (flat rs).length = 2 * rs.length := by
  induction rs with
  | nil => rfl
  | cons r rs ih => rw [flat_cons]; simp only [List.length_cons, ih]; omega
theorem flat_get0 : ∀ (rs : List (ByteArray × Nat)) (i : Nat) (r : ByteArray × Nat), rs[i]? = some r → (flat rs)[i * 2]? = some (.string r.1)
  | [], i, r, h => by simp at h
  | a :: rs, 0, r, h => by simp at h; subst h; rfl
  | a :: rs, i + 1, r, h => by
    have := flat_get0 rs i r (by simpa using h)
    rw [flat_cons, show (i + 1) * 2 = i * 2 + 1 + 1 by omega]
    simpa using this
theorem flat_get1 : ∀ (rs : List (ByteArray × Nat)) (i : Nat) (r : ByteArray × Nat), rs[i]? = some r → (flat rs)[i * 2 + 1]? = some (.int .i64 r.2)
  | [], i, r, h => by simp at h
  | a :: rs, 0, r, h => by simp at h; subst h; rfl
  | a :: rs, i + 1, r, h => by
    have := flat_get1 rs i r (by simpa using h)
    rw [flat_cons, show (i + 1) * 2 + 1 = i * 2 + 1 + 1 + 1 by omega]
    simpa using this
theorem flat_one (rs : List (ByteArray × Nat)) : ∀ v ∈ flat rs, v.oneCell' = true := by
  induction rs with
  | nil => intro v hv; simp [flat_nil] at hv
  | cons r rs ih =>
    intro v hv
    rw [flat_cons] at hv
    simp only [List.mem_cons] at hv
    rcases hv with rfl | rfl | hv
    · rfl
    · rfl
    · exact ih v hv

theorem expand_append (a b : List (ByteArray × Nat)) : expand (a ++ b) = expand a ++ expand b := by simp [expand]
theorem expand_one (s : ByteArray) (n : Nat) : expand [(s, n)] = List.replicate n s := by simp [expand]
theorem expand_length_ge : ∀ (rs : List (ByteArray × Nat)), Good rs → rs.length ≤ (expand rs).length
  | [], _ => Nat.zero_le _
  | r :: rs, h => by
    have := expand_length_ge rs (fun x hx => h x (by simp [hx]))
    have h1 := h r (by simp)
    rw [show r :: rs = [r] ++ rs from rfl, expand_append, show expand [r] = List.replicate r.2 r.1 by simp [expand]]
    simp only [List.length_append, List.length_cons, List.length_nil, List.length_replicate]
    omega
theorem count_le : ∀ (rs : List (ByteArray × Nat)) (r : ByteArray × Nat), r ∈ rs → r.2 ≤ (expand rs).length
  | [], r, h => by simp at h
  | a :: rs, r, h => by
    rw [show a :: rs = [a] ++ rs from rfl, expand_append, show expand [a] = List.replicate a.2 a.1 by simp [expand]]
    simp only [List.mem_cons] at h
    rcases h with rfl | h
    · simp
    · have := count_le rs r h
      simp; omega
theorem good_init {init : List (ByteArray × Nat)} {r : ByteArray × Nat} (h : Good (init ++ [r])) : Good init := fun x hx => h x (by simp [hx])
theorem good_snoc {init : List (ByteArray × Nat)} {r : ByteArray × Nat} (h : Good init) (hr : 1 ≤ r.2) : Good (init ++ [r]) := by
  intro x hx
  simp only [List.mem_append, List.mem_singleton] at hx
  rcases hx with hx | rfl
  · exact h x hx
  · exact hr

/-! ### the runs' row -/
/-- Block rb is a row of C runs, the first of which are rs. -/
def Own (rb C : Nat) (rs : List (ByteArray × Nat)) (W : World) : Prop :=
  ∃ rest : List Value, W.heap[rb]? = some (.cells (flat rs ++ rest).toArray 49 (0, 0)) ∧ (flat rs ++ rest).length = 2 * C

theorem own_lt {rb C : Nat} {rs : List (ByteArray × Nat)} {W : World} (h : Own rb C rs W) : rb < W.heap.size := by
  obtain ⟨_, h, _⟩ := h
  exact (Array.getElem?_eq_some_iff.1 h).1
theorem own_len {rb C : Nat} {rs : List (ByteArray × Nat)} {W : World} (h : Own rb C rs W) : rs.length ≤ C := by
  obtain ⟨rest, _, h⟩ := h
  rw [List.length_append, flat_length] at h
  omega
theorem own_of_block {rb C : Nat} {rs : List (ByteArray × Nat)} {W W' : World} (h : Own rb C rs W) (e : W'.heap[rb]? = W.heap[rb]?) : Own rb C rs W' := by
  obtain ⟨rest, h, hl⟩ := h
  exact ⟨rest, e.trans h, hl⟩
theorem own_cell0 {rb C : Nat} {rs : List (ByteArray × Nat)} {W : World} (h : Own rb C rs W) {i : Nat} {r : ByteArray × Nat} (hi : rs[i]? = some r) : W.cell? ⟨rb, i * 2, none⟩ = some (.string r.1) := by
  obtain ⟨rest, h, _⟩ := h
  have hlt : i * 2 < (flat rs).length := (List.getElem?_eq_some_iff.1 (flat_get0 rs i r hi)).1
  simp only [World.cell?, h]
  simpa [List.getElem?_append_left hlt] using flat_get0 rs i r hi
theorem own_cell1 {rb C : Nat} {rs : List (ByteArray × Nat)} {W : World} (h : Own rb C rs W) {i : Nat} {r : ByteArray × Nat} (hi : rs[i]? = some r) : W.cell? ⟨rb, i * 2 + 1, none⟩ = some (.int .i64 r.2) := by
  obtain ⟨rest, h, _⟩ := h
  have hlt : i * 2 + 1 < (flat rs).length := (List.getElem?_eq_some_iff.1 (flat_get1 rs i r hi)).1
  simp only [World.cell?, h]
  simpa [List.getElem?_append_left hlt] using flat_get1 rs i r hi
theorem own_frozen {rb C : Nat} {rs : List (ByteArray × Nat)} {W : World} (h : Own rb C rs W) (i : Nat) : W.frozen? ⟨rb, i, none⟩ = false := by
  obtain ⟨rest, h, _⟩ := h
  simp [World.frozen?, h]
theorem own_drop {rb C : Nat} {init : List (ByteArray × Nat)} {r : ByteArray × Nat} {W : World} (h : Own rb C (init ++ [r]) W) : Own rb C init W := by
  obtain ⟨rest, h, hl⟩ := h
  rw [flat_append, List.append_assoc] at h hl
  exact ⟨_, h, hl⟩
theorem own_set {rb C : Nat} {init : List (ByteArray × Nat)} {s : ByteArray} {n : Nat} {W : World} (h : Own rb C (init ++ [(s, n)]) W) (m : Nat) :
    Own rb C (init ++ [(s, m)]) (W.setCell ⟨rb, init.length * 2 + 1, none⟩ (.int .i64 m)) := by
  obtain ⟨rest, h, hl⟩ := h
  refine ⟨rest, ?_, by rw [← hl]; simp [flat_append, flat_cons, flat_nil]⟩
  have hf := flat_length init
  have e : (flat (init ++ [(s, n)]) ++ rest).toArray.setIfInBounds (init.length * 2 + 1) (.int .i64 m) = (flat (init ++ [(s, m)]) ++ rest).toArray := by
    rw [flat_append, flat_append, flat_cons, flat_cons, flat_nil]
    simp only [List.setIfInBounds_toArray, List.append_assoc, List.cons_append, List.nil_append]
    congr 1
    rw [List.set_append_right _ _ (by omega), hf, show init.length * 2 + 1 - 2 * init.length = 1 by omega]
    rfl
  simp only [World.setCell, Array.getElem?_modify, if_true, h, Option.map_some]
  rw [← e]
  simp
theorem own_setOther {rb C : Nat} {rs : List (ByteArray × Nat)} {W : World} (h : Own rb C rs W) {a : Addr} (ha : rb ≠ a.block) (v : Value) : Own rb C rs (W.setCell a v) :=
  own_of_block h (by simp [World.setCell, Array.getElem?_modify, Ne.symm ha])
theorem own_alloc {rb C : Nat} {rs : List (ByteArray × Nat)} {W : World} (h : Own rb C rs W) (o : Obj) : Own rb C rs (W.alloc o) :=
  own_of_block h (by have := own_lt h; simp only [World.alloc, Array.getElem?_push]; rw [if_neg (by omega)])

/-- Behind an append that has room. -/
theorem own_push {rb C : Nat} {rs : List (ByteArray × Nat)} {W : World} (rest : List Value) (h : W.heap[rb]? = some (.cells (flat rs ++ rest).toArray 49 (0, 0))) (hl : (flat rs ++ rest).length = 2 * C) (hroom : rs.length + 1 ≤ C) (x : ByteArray) :
    Own rb C (rs ++ [(x, 1)]) (W.setRow rb (((flat rs ++ rest).toArray.toList.take (rs.length * 2) ++ [Value.string x, Value.int .i64 1] ++ (flat rs ++ rest).toArray.toList.drop (rs.length * 2 + 2)).toArray)) := by
  have hf := flat_length rs
  rw [List.length_append] at hl
  refine ⟨rest.drop 2, ?_, by rw [List.length_append, flat_length, List.length_drop, List.length_append, List.length_singleton]; omega⟩
  rw [setRow_heap W rb _ _ 49 (0, 0) h]
  congr 3
  rw [show (flat rs ++ rest).toArray.toList = flat rs ++ rest from rfl, List.take_append_of_le_length (by omega), List.take_of_length_le (by omega), List.drop_append, List.drop_of_length_le (by omega)]
  rw [flat_append, flat_cons, flat_nil, hf, show rs.length * 2 + 2 - 2 * rs.length = 2 by omega]
  simp

/-- A new row of C runs, all zero, behind the copy of rs into it. -/
theorem own_copied {rs : List (ByteArray × Nat)} {W : World} {C : Nat} {cur : Array Value} {g : Nat} (h : W.heap[g]? = some (.cells cur 49 (0, 0))) (hs : cur.size = 2 * C) (hC : rs.length ≤ C) :
    Own g C rs (W.setRow g ((cur.toList.take 0 ++ flat rs ++ cur.toList.drop (0 + (flat rs).length)).toArray)) := by
  have hf := flat_length rs
  refine ⟨cur.toList.drop (flat rs).length, ?_, by rw [List.length_append, List.length_drop, hf]; simp; omega⟩
  rw [setRow_heap W g _ _ 49 (0, 0) h]
  simp

/-! ### the scanner's struct -/
/-- The cells of a scanner that is zero but for the header of openIndents. -/
def sc (h : Value) : Nat → Value
  | 0 => .string { data := #[] }
  | 1 => .int .i64 0
  | 2 => .string { data := #[] }
  | 3 => .string { data := #[] }
  | 4 => .bool false
  | 5 => .bool false
  | 6 => .slice none 0 0
  | 7 => h
  | 8 => .slice none 0 0
  | 9 => .bool false
  | 10 => .string { data := #[] }
  | 11 => .int .i64 0
  | 12 => .pointer none
  | 13 => .pointer none
  | _ => .bool false

theorem sc_new (w : World) : (w.alloc (.cells #[.string { data := #[] }, .int .i64 0, .string { data := #[] }, .string { data := #[] }, .bool false, .bool false, .slice none 0 0, .slice none 0 0, .slice none 0 0,
    .bool false, .string { data := #[] }, .int .i64 0, .pointer none, .pointer none, .bool false] 46)).rowIs w.heap.size 46 15 (sc (.slice none 0 0)) :=
  World.rowIs_alloc w _ 46 (sc (.slice none 0 0)) (fun i hi => by
    match i, hi with
    | 0, _ => rfl
    | 1, _ => rfl
    | 2, _ => rfl
    | 3, _ => rfl
    | 4, _ => rfl
    | 5, _ => rfl
    | 6, _ => rfl
    | 7, _ => rfl
    | 8, _ => rfl
    | 9, _ => rfl
    | 10, _ => rfl
    | 11, _ => rfl
    | 12, _ => rfl
    | 13, _ => rfl
    | 14, _ => rfl)
theorem sc_set {W : World} {B : Nat} {h : Value} (k : W.rowIs B 46 15 (sc h)) (h' : Value) : (W.setCell ⟨B, 7, none⟩ h').rowIs B 46 15 (sc h') :=
  (k.set 7 h').congr (fun i hi => by
    by_cases e : i = 7
    · subst e; rfl
    · rw [if_neg e]
      match i, hi, e with
      | 0, _, _ => rfl
      | 1, _, _ => rfl
      | 2, _, _ => rfl
      | 3, _, _ => rfl
      | 4, _, _ => rfl
      | 5, _, _ => rfl
      | 6, _, _ => rfl
      | 8, _, _ => rfl
      | 9, _, _ => rfl
      | 10, _, _ => rfl
      | 11, _, _ => rfl
      | 12, _, _ => rfl
      | 13, _, _ => rfl
      | 14, _, _ => rfl)

/-- THE STACK: nothing was ever pushed; or the header leads to a row of runs. -/
def Stk (w : World) (B : Nat) (rs : List (ByteArray × Nat)) (W : World) : Prop :=
  (rs = [] ∧ W.rowIs B 46 15 (sc (.slice none 0 0)) ∧ Below B w W) ∨
  ∃ rb C, W.rowIs B 46 15 (sc (.slice (some ⟨rb, 0, none⟩) rs.length C)) ∧ Own rb C rs W ∧ B < rb ∧ 1 ≤ C ∧ C ≤ 4096 ∧ Below B w W
/-- The stack holds the levels l, the outermost first. -/
def Holds (w : World) (B : Nat) (l : List ByteArray) (W : World) : Prop := ∃ rs, expand rs = l ∧ Good rs ∧ Stk w B rs W
end Go.Proofs.Ybulkkmy
