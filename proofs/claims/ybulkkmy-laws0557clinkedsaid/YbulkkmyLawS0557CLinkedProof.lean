/-
  THE PROOF OF 'Rows.LawS0557CLinkedSaid' ('example.com/lexwright/lexwright.LawS0557CLinked'): the frame after the program-written shells, at a slice of strings and a slice of ints.
-/
import Derived.Test.YbulkkmyLinkedWalk
import Derived.ProofKit
import Derived.OpenShut
import Derived.ShutString
import Derived.SliceStrings
import Derived.ChangeOld
namespace Go.Proofs.Ybulkkmy.lawS0557CLinked
open Go.ChangeShapes Go.WideShapes Go.ChangeAt Go.RowKit
open Go.ChangeMaps (open_string shut_string)
set_option linter.unusedVariables false

theorem own : ownKnob Yba.prog.godebug = none := by kernel_rfl
theorem laidOut : laidOutB Yba.prog = true := by kernel_rfl

/-- What the walk is told of a slice that came in, its cells' values given by the index: the elements lie behind its address. -/
def IsRow (f : Nat → Value) (w : World) (a : Option Addr) (len cap : Nat) : Prop :=
  len ≤ maxLen ∧ ∀ j, j < len → ∃ b o, a = some ⟨b, o, none⟩ ∧ w.cell? ⟨b, o + j, none⟩ = some (f j)

theorem walk (a0 : Option Addr) (len0 cap0 : Nat) (S : Nat → ByteArray) (a1 : Option Addr) (len1 cap1 : Nat) (Z : Nat → Int) (w : World)
    (w0 : IsRow (fun j => .string (S j)) w a0 len0 cap0) (w1 : IsRow (fun j => .int .i64 (Z j)) w a1 len1 cap1) :
    Calls Yba.prog 6 #[.slice a0 len0 cap0, .slice a1 len1 cap1] w fun e w' => e = .returned (.bool true) ∧ Below w.heap.size w w' := by
  by_cases hbig : 1024 < len0
  · exact linked_many a0 len0 cap0 a1 len1 cap1 w hbig
  by_cases h0 : len0 = 0
  · subst h0
    exact linked_zero a0 cap0 a1 len1 cap1 w
  obtain ⟨m0, c0⟩ := w0
  obtain ⟨m1, c1⟩ := w1
  unfold maxLen at m1
  obtain ⟨b0, o0, rfl, _⟩ := c0 0 (by omega)
  refine linked b0 o0 len0 cap0 a1 len1 cap1 S (fun j => if j < len1 then Z j else 1) w (by omega) (by omega) (by omega) (fun j hj => ?_) (fun j hj => ?_) (fun j hj => by simp [hj])
  · obtain ⟨b, o, e, h⟩ := c0 j hj
    simp only [Option.some.injEq, Addr.mk.injEq, and_true] at e
    obtain ⟨rfl, rfl⟩ := e
    exact h
  · obtain ⟨b, o, e, h⟩ := c1 j hj
    exact ⟨b, o, e, by simp only [hj, if_true]; exact h⟩

/-! ### THE ROW's STEP -/
set_option maxRecDepth 100000 in
theorem lifted (os : Os) (started : os.Started) (H : Type) (enc : TypeId × Value → H) :
    ReturnsInHanded {} Yba.checked os 6 .any (Rows.lawS0557CLinkedSpec.pre6 enc Yba.prog Yba.f6 Rows.lawS0557CLinkedRow.domain false) (Rows.lawS0557CLinkedSpec.post enc Yba.prog Yba.f6 false true false false) := by
  refine returnsInHanded_of_change (C := Yba.checked) own started (by kernel_rfl) Yba.func6
    (ChangeSpec.witness6 (enc := enc) (C := Yba.checked) false ⟨#[], #[.slice none 0 0, .slice none 0 0], []⟩ 8 (by kernel_rfl) (by kernel_rfl) (by kernel_rfl) (by kernel_rfl)) ?_
  intro W base args ds gs before hval0 hW hcnd _
  have hval : ∀ (j : Nat) t v, Yba.f6.params[j]? = some t → args[j]? = some v → Value.okWide Yba.prog W .any base t v := hval0
  have hW' := hW
  obtain ⟨p, q, hA0, hV, rfl, hfz, hnd⟩ := hW
  have hA : DataW.TrodAll enc Yba.prog W 0 (fun _ => true) true Yba.f6.params.toList args.toList ds p := hA0
  rw [Yba.params6] at hA hval
  obtain ⟨v0, vs0, d0, ds0, p0, q0, hargs, rfl, rfl, h0, r0⟩ := trodAll_cons hA
  obtain ⟨v1, vs1, d1, ds1, p1, q1, rfl, rfl, rfl, h1, r1⟩ := trodAll_cons r0
  obtain ⟨rfl, rfl, rfl⟩ := trodAll_nil r1
  obtain rfl : args = #[v0, v1] := by cases args; simp_all
  obtain ⟨rfl, rfl⟩ := trodVars_none hV
  obtain ⟨a0, len0, cap0, rfl⟩ := okWide_slice Yba.underlying29 (hval 0 29 v0 rfl rfl)
  have k0 := h0
  have lt0 : ∀ x ∈ p0, x.block < W.heap.size := by obtain ⟨m, hm⟩ := k0; exact DataW.trod_lt m _ _ _ hm
  obtain ⟨S, w0⟩ : ∃ S : Nat → ByteArray, IsRow (fun j => .string (S j)) W a0 len0 cap0 := by
    obtain ⟨fuel, hf⟩ := h0
    rcases open_strings Yba.underlying29 Yba.underlying9 (by kernel_rfl) hf with ⟨hcs, _⟩ | ⟨x, l, c, ss, hcs, _, hl, hm, hz, _, hcell, _⟩
    · simp [Value.cells] at hcs
      obtain ⟨rfl, rfl, rfl⟩ := hcs
      exact ⟨fun _ => ByteArray.empty, Nat.zero_le _, fun j hj => absurd hj (Nat.not_lt_zero _)⟩
    · simp [Value.cells] at hcs
      obtain ⟨rfl, rfl, rfl⟩ := hcs
      simp at hz
      refine ⟨fun j => ss.getD j ByteArray.empty, Nat.le_trans hl hm, fun j hj => ?_⟩
      obtain ⟨b, off, spot⟩ := x
      have hspot : spot = none := by simpa [Addr.add] using World.cell?_spot (hcell 0 (by omega))
      subst hspot
      exact ⟨b, off, rfl, by rw [← Go.WideShapes.add_plain]; exact hcell j (by omega)⟩
  obtain ⟨a1, len1, cap1, rfl⟩ := okWide_slice Yba.underlying58 (hval 1 58 v1 rfl rfl)
  have k1 := h1
  have lt1 : ∀ x ∈ p1, x.block < W.heap.size := by obtain ⟨m, hm⟩ := k1; exact DataW.trod_lt m _ _ _ hm
  obtain ⟨Z, w1⟩ : ∃ Z : Nat → Int, IsRow (fun j => .int .i64 (Z j)) W a1 len1 cap1 := by
    obtain ⟨fuel, hf⟩ := h1
    rcases open_ints Yba.underlying58 Yba.underlying3 (by kernel_rfl) hf with ⟨hcs, _⟩ | ⟨x, l, c, zs, hcs, _, hl, hm, hz, _, hcell, hwz⟩
    · simp [Value.cells] at hcs
      obtain ⟨rfl, rfl, rfl⟩ := hcs
      exact ⟨fun _ => 0, Nat.zero_le _, fun j hj => absurd hj (Nat.not_lt_zero _)⟩
    · simp [Value.cells] at hcs
      obtain ⟨rfl, rfl, rfl⟩ := hcs
      simp at hz
      refine ⟨fun j => zs.getD j 0, Nat.le_trans hl hm, fun j hj => ?_⟩
      obtain ⟨b, off, rfl, hc⟩ := ints_at hcell (by omega)
      exact ⟨b, off, rfl, hc j (by omega)⟩
  clear hA0 hval0
  refine (walk a0 len0 cap0 S a1 len1 cap1 Z W w0 w1).mono fun e W' ⟨he, bel⟩ => ?_
  subst he
  exact ⟨_, rfl, _, _, _, [], _, [], hW', trodAll_mk1 (shut_bool Yba.underlying4 _), (trodAll_cons_mk (Below.trod laidOut (by kernel_rfl) (of_decide_eq_true (by kernel_rfl)) k0 bel lt0) (trodAll_cons_mk (Below.trod laidOut (by kernel_rfl) (of_decide_eq_true (by kernel_rfl)) k1 bel lt1) trodAll_mk0)), rfl, bel.frame _, fun h => by cases h⟩

theorem over : Rows.lawS0557CLinkedRow.holds Yba.pinned (OpenSpec.ofChange Rows.lawS0557CLinkedSpec) :=
  OpenClaim.holds_of_wide 6 Yba.f6 rfl rfl rfl rfl rfl rfl rfl ⟨rfl, rfl, rfl, rfl, rfl⟩ rfl rfl rfl rfl rfl (by kernel_rfl) Yba.func6 (by kernel_rfl)
    (of_decide_eq_true (by kernel_rfl)) (by unfold Func.isWrapper; first | (rw [if_pos (by decide +kernel)]; kernel_rfl) | (rw [if_neg (by decide +kernel)]; exact ⟨rfl, rfl⟩))
    (fun os started H enc _ => lifted os started H enc)

/-- ████ THE STATEMENT ████ -/
theorem proved : Rows.LawS0557CLinkedSaid := over
#print axioms proved
end Go.Proofs.Ybulkkmy.lawS0557CLinked
