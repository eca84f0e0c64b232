/-
  Plain facts for LawS0568AViaUnique: the first place of an id; the ids recorded (a rising list and the others); the reader's struct, its rising slice and its map in memory. No walk.
-/
import Derived.Test.YbulkkswFmtRows
import Derived.Maps.OwnSet
import Derived.Deep.OwnRows
import Derived.Deep.AppendLies
import Derived.Deep.Draws
import Derived.Below
namespace Go.Proofs.YbulkkswFmt
open Go.RowKit

/-! ### the model -/
/-- The first of the first n places at which q stands. -/
def first (Z : Nat → Int) : Nat → Int → Option Nat
  | 0, _ => none
  | n + 1, q => match first Z n q with
    | some k => some k
    | none => if Z n = q then some n else none
/-- A line as a pair of results. -/
def lineOf (o : Option Int) : Value := .tuple #[.int .i64 (o.getD 0), .bool o.isSome]
/-- The line of the first place. -/
def fl (Z : Nat → Int) (n : Nat) (q : Int) : Option Int := (first Z n q).map fun (k : Nat) => (k : Int) + 1
theorem fl_new {Z : Nat → Int} {k : Nat} (h : fl Z k (Z k) = none) (q : Int) : fl Z (k + 1) q = if q = Z k then some ((k : Int) + 1) else fl Z k q := by
  unfold fl at h ⊢
  by_cases e : q = Z k
  · subst e
    have : first Z k (Z k) = none := Option.map_eq_none_iff.1 h
    simp [first, this]
  · rw [if_neg e]
    cases hf : first Z k q with
    | some j => simp [first, hf]
    | none => simp [first, hf, Ne.symm e]
theorem fl_old {Z : Nat → Int} {k : Nat} (h : (fl Z k (Z k)).isSome = true) (q : Int) : fl Z (k + 1) q = fl Z k q := by
  unfold fl at h ⊢
  cases hf : first Z k q with
  | some j => simp [first, hf]
  | none =>
    have : Z k ≠ q := fun e => by rw [e, hf] at h; simp at h
    simp [first, hf, this]

/-! ### what is recorded -/
def find (rs : List (Int × Int)) (q : Int) : Option Int := (rs.find? fun r => r.1 == q).map (·.2)
def comb (fm : Int → Option Int) (rs : List (Int × Int)) (q : Int) : Option Int := match fm q with
  | some l => some l
  | none => find rs q
/-- The ids rise. -/
def Rise (rs : List (Int × Int)) : Prop := rs.Pairwise fun a b => a.1 < b.1

theorem find_none {rs : List (Int × Int)} {q : Int} (h : ∀ r ∈ rs, r.1 ≠ q) : find rs q = none := by
  have : (rs.find? fun r => r.1 == q) = none := by
    rw [List.find?_eq_none]
    intro r hr e
    exact h r hr (by simpa using e)
  simp [find, this]
theorem find_snoc (rs : List (Int × Int)) (id ln q : Int) : find (rs ++ [(id, ln)]) q = match find rs q with
    | some l => some l
    | none => if q = id then some ln else none := by
  unfold find
  rw [List.find?_append]
  cases h : rs.find? fun r => r.1 == q with
  | some r => simp
  | none =>
    by_cases e : q = id
    · subst e; simp
    · simp [e, Ne.symm e]
theorem comb_rise {fm : Int → Option Int} {rs : List (Int × Int)} {id ln : Int} (h : comb fm rs id = none) (q : Int) : comb fm (rs ++ [(id, ln)]) q = if q = id then some ln else comb fm rs q := by
  unfold comb at h ⊢
  by_cases e : q = id
  · subst e
    cases hf : fm q with
    | some l => rw [hf] at h; cases h
    | none =>
      rw [hf] at h
      simp only at h
      rw [find_snoc, h]
  · rw [if_neg e]
    cases hf : fm q with
    | some l => rfl
    | none =>
      simp only
      rw [find_snoc, if_neg e]
      cases find rs q <;> rfl
theorem comb_fall {fm : Int → Option Int} {rs : List (Int × Int)} {id ln : Int} (q : Int) : comb (fun x => if x = id then some ln else fm x) rs q = if q = id then some ln else comb fm rs q := by
  unfold comb
  by_cases e : q = id
  · subst e; simp
  · simp [e]

theorem rise_at {rs : List (Int × Int)} (h : Rise rs) {i j : Nat} {a b : Int × Int} (hij : i < j) (hi : rs[i]? = some a) (hj : rs[j]? = some b) : a.1 < b.1 := by
  obtain ⟨h1, e1⟩ := List.getElem?_eq_some_iff.1 hi
  obtain ⟨h2, e2⟩ := List.getElem?_eq_some_iff.1 hj
  have := (List.pairwise_iff_getElem.1 h) i j h1 h2 hij
  rw [e1, e2] at this
  exact this
theorem rise_snoc {rs : List (Int × Int)} (h : Rise rs) {r : Int × Int} (hr : ∀ x ∈ rs, x.1 < r.1) : Rise (rs ++ [r]) := by
  unfold Rise
  rw [List.pairwise_append]
  refine ⟨h, List.pairwise_singleton _ _, fun a ha b hb => ?_⟩
  simp at hb
  subst hb
  exact hr a ha
/-- All stand at most as high as the last. -/
theorem rise_last {init : List (Int × Int)} {r : Int × Int} (h : Rise (init ++ [r])) : ∀ x ∈ init ++ [r], x.1 ≤ r.1 := by
  unfold Rise at h
  rw [List.pairwise_append] at h
  intro x hx
  simp only [List.mem_append, List.mem_singleton] at hx
  rcases hx with hx | rfl
  · exact Int.le_of_lt (h.2.2 x hx r (by simp))
  · exact Int.le_refl _
/-- What the binary search comes to. -/
theorem find_search {rs : List (Int × Int)} (h : Rise rs) {id : Int} {r : Nat} {a : Int × Int} (ha : rs[r]? = some a) (h1 : ∀ t b, t < r → rs[t]? = some b → b.1 < id) (h2 : id ≤ a.1) :
    find rs id = if a.1 = id then some a.2 else none := by
  by_cases e : a.1 = id
  · rw [if_pos e]
    have : (rs.find? fun x => x.1 == id) = some a := by
      obtain ⟨hr, er⟩ := List.getElem?_eq_some_iff.1 ha
      rw [List.find?_eq_some_iff_getElem]
      refine ⟨by simpa using e, r, hr, er, fun j hj => ?_⟩
      have := h1 j rs[j] hj (by simp)
      simp
      omega
    simp [find, this]
  · rw [if_neg e]
    refine find_none (fun x hx => ?_)
    obtain ⟨t, ht, rfl⟩ := List.getElem_of_mem hx
    rcases Nat.lt_trichotomy t r with hlt | rfl | hgt
    · have := h1 t rs[t] hlt (by simp)
      omega
    · have : a = rs[t] := by
        obtain ⟨hr, er⟩ := List.getElem?_eq_some_iff.1 ha
        exact er.symm
      rw [← this]
      exact e
    · have := rise_at h hgt ha (b := rs[t]) (by simp)
      omega

/-! ### the reader in memory -/
/-- The cells of a Reader named "f" that has read ln lines. -/
def rdr (ln : Int) (v fv : Value) : Nat → Value
  | 0 => .string { data := #[102] }
  | 1 => .pointer none
  | 2 => .int .i64 ln
  | 3 => .slice none 0 0
  | 4 => .nilIface
  | 5 => .bool false
  | 6 => .bool false
  | 7 => v
  | _ => fv
def flat2 (rs : List (Int × Int)) : List Value := rs.flatMap fun r => [.int .i64 r.1, .int .i64 r.2]
theorem flat2_cons (r : Int × Int) (rs : List (Int × Int)) : flat2 (r :: rs) = .int .i64 r.1 :: .int .i64 r.2 :: flat2 rs := rfl
theorem flat2_snoc (rs : List (Int × Int)) (id ln : Int) : flat2 (rs ++ [(id, ln)]) = flat2 rs ++ [.int .i64 id, .int .i64 ln] := by simp [flat2]
theorem flat2_get0 : ∀ (rs : List (Int × Int)) (i : Nat) (r : Int × Int), rs[i]? = some r → (flat2 rs)[i * 2]? = some (.int .i64 r.1)
  | [], i, r, h => by simp at h
  | a :: rs, 0, r, h => by simp at h; subst h; rfl
  | a :: rs, i + 1, r, h => by
    have := flat2_get0 rs i r (by simpa using h)
    rw [flat2_cons, show (i + 1) * 2 = i * 2 + 1 + 1 by omega]
    simpa using this
theorem flat2_get1 : ∀ (rs : List (Int × Int)) (i : Nat) (r : Int × Int), rs[i]? = some r → (flat2 rs)[i * 2 + 1]? = some (.int .i64 r.2)
  | [], i, r, h => by simp at h
  | a :: rs, 0, r, h => by simp at h; subst h; rfl
  | a :: rs, i + 1, r, h => by
    have := flat2_get1 rs i r (by simpa using h)
    rw [flat2_cons, show (i + 1) * 2 + 1 = i * 2 + 1 + 1 + 1 by omega]
    simpa using this

/-- THE MAP OF THE OTHERS: not made yet; or a block of its own above B, of at most k entries, that reads as fm. -/
def Fal (B k : Nat) (fv : Value) (fm : Int → Option Int) (W : World) : Prop :=
  (fv = .map none ∧ ∀ q, fm q = none) ∨
  ∃ mb n D, fv = .map (some mb) ∧ B < mb ∧ n ≤ k ∧ W.ownsMap (H := Unit) Ybaf.prog 2 (plainElem Ybaf.prog 3) mb n D ∧
    ∀ q, (Lit.int .i64 q).wf = true → Maps.has D (.int .i64 q) = (fm q).isSome ∧ ∀ l, fm q = some l → D.atKey (.int .i64 q) (.lit (.int .i64 0)) = .lit (.int .i64 l)

/-- THE STATE of a reader in block B. -/
def St (w : World) (B k : Nat) (ln : Int) (v fv : Value) (rs : List (Int × Int)) (fm : Int → Option Int) (W : World) : Prop :=
  W.rowIs B 31 9 (rdr ln v fv) ∧ W.ownsRow (B + 1) 59 2 v rs.length (flat2 rs) ∧ Fal B k fv fm W ∧ Rise rs ∧ rs.length ≤ k ∧ Below B w W

theorem fal_kept {B k : Nat} {fv : Value} {fm : Int → Option Int} {W W' : World} (h : Fal B k fv fm W) {row : Option Nat} (hg : W.grownBy W' row) (hne : ∀ mb, fv = .map (some mb) → some mb ≠ row) : Fal B k fv fm W' := by
  rcases h with h | ⟨mb, n, D, rfl, hB, hn, hm, hq⟩
  · exact .inl h
  · exact .inr ⟨mb, n, D, rfl, hB, hn, hm.kept hg (hne mb rfl), hq⟩
theorem below_grown {W W' : World} (h : Below W.heap.size W W') : W.grownBy W' none := ⟨h.os, h.tape, h.output, h.size, fun k hk _ => h.block k hk⟩
/-- Whatever leaves the old blocks alone leaves the state. -/
theorem st_kept {w W W' : World} {B k : Nat} {ln : Int} {v fv : Value} {rs : List (Int × Int)} {fm : Int → Option Int} (h : St w B k ln v fv rs fm W) (hb : Below W.heap.size W W') : St w B k ln v fv rs fm W' := by
  obtain ⟨hr, ho, hf, hs, hk, hB⟩ := h
  have hlt := hr.lt
  refine ⟨hr.of_block (hb.block B hlt), ho.kept (below_grown hb) (by cases hv : v.ownBlock <;> simp), fal_kept hf (below_grown hb) (fun _ _ => by simp), hs, hk, hB.trans (hb.mono (by omega))⟩

theorem law2 : Maps.Keyed Ybaf.prog 2 := Maps.int_keyed Ybaf.underlying2
theorem zero3 (w : World) : (zeroValue 3).run Ybaf.prog w = .ok (.int .i64 0) w := by kernel_rfl
/-- The look-up, in whatever draws. -/
theorem fal_look {B k : Nat} {fv : Value} {fm : Int → Option Int} {W : World} (h : Fal B k fv fm W) {q : Int} (hq : (Lit.int .i64 q).wf = true) (nq : Nat) :
    (Instr.lookup 29 fv (.int .i64 q) true).run Ybaf.prog (W.drewN nq) = .ok (lineOf (fm q)) (W.drewN nq) := by
  have hkey : keyOf Ybaf.prog 2 (.int .i64 q) = some (.int .i64 q) := Maps.keyOf_int_mk Ybaf.underlying2 hq
  rcases h with ⟨rfl, h⟩ | ⟨mb, n, D, rfl, _, _, hm, h⟩
  · rw [h q]
    exact Maps.look_nil true law2 Ybaf.underlying29 (zero3 _) hkey
  · have hm' : (W.drewN nq).ownsMap (H := Unit) Ybaf.prog 2 (plainElem Ybaf.prog 3) mb n D := hm
    obtain ⟨v, ps, hrun, hv⟩ := hm'.look_ok law2 Ybaf.underlying29 (zero3 _) (plainElem_int Ybaf.underlying3 (by decide)) hkey
    obtain ⟨h1, h2⟩ := h q hq
    obtain ⟨c, rfl, hc, _⟩ := plainElem_int_inv Ybaf.underlying3 hv
    simp only [Prod.mk.injEq] at hc
    rw [h1] at hrun
    rw [hrun]
    cases hf : fm q with
    | some l =>
      have e := (h2 l hf).symm.trans hc.1
      simp at e
      rw [e]
      rfl
    | none =>
      rw [hf] at h1
      have e := (Maps.atKey_of_not_has h1 _).symm.trans hc.1
      simp at e
      rw [← e]
      rfl

/-- An id that is stored in the map. -/
theorem fal_put {B k : Nat} {fm : Int → Option Int} {W' : World} {mb n : Nat} {D : DataW Unit} {id ln : Int} (hB : B < mb) (hn : n + 1 ≤ k) (hD : Maps.IsMap D)
    (h : ∀ q, (Lit.int .i64 q).wf = true → Maps.has D (.int .i64 q) = (fm q).isSome ∧ ∀ l, fm q = some l → D.atKey (.int .i64 q) (.lit (.int .i64 0)) = .lit (.int .i64 l))
    (hm : W'.ownsMap (H := Unit) Ybaf.prog 2 (plainElem Ybaf.prog 3) mb (n + 1) (D.put (.int .i64 id) (.lit (.int .i64 ln)))) :
    Fal B k (.map (some mb)) (fun x => if x = id then some ln else fm x) W' := by
  refine .inr ⟨mb, n + 1, _, rfl, hB, hn, hm, fun q hq => ?_⟩
  by_cases e : q = id
  · subst e
    refine ⟨by rw [Maps.has_put_same hD (show WideAt.IsKeyLit (.int .i64 q) from trivial)]; simp, fun l hl => ?_⟩
    rw [Maps.atKey_put_same hD (show WideAt.IsKeyLit (.int .i64 q) from trivial)]
    simp at hl
    rw [hl]
  · have hne : (Lit.int .i64 q) ≠ .int .i64 id := fun h => e (by simpa using h)
    rw [Maps.has_put_other hne, Maps.atKey_put_other hne]
    simpa [e] using h q hq
end Go.Proofs.YbulkkswFmt
