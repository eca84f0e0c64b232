/-
  THE PROOF OF 'Rows.LawS0557BPlainPopSaid' ('example.com/lexwright/lexwright.LawS0557BPlainPop'): the frame after the program-written shells, at a slice of strings, a uint8 and a string.
-/
import Derived.Test.YbulkkmyPopMain
import Derived.ProofKit
import Derived.OpenShut
import Derived.ShutString
import Derived.SliceStrings
import Derived.ChangeOld
namespace Go.Proofs.Ybulkkmy.lawS0557BPlainPop
open Go.ChangeShapes Go.WideShapes Go.ChangeAt Go.RowKit
open Go.ChangeMaps (open_string shut_string)
set_option linter.unusedVariables false

theorem own : ownKnob Yba.prog.godebug = none := by kernel_rfl
theorem laidOut : laidOutB Yba.prog = true := by kernel_rfl

/-- What the walk is told of the slice of strings that came in: its strings are its; nil has no room; its elements lie behind its address. -/
def IsStrs (its : List ByteArray) (w : World) (a : Option Addr) (len cap : Nat) : Prop :=
  its.length = len ∧ len ≤ cap ∧ cap ≤ maxLen ∧ (a = none → cap = 0) ∧ ∀ j, j < len → ∃ b o, a = some ⟨b, o, none⟩ ∧ w.cell? ⟨b, o + j, none⟩ = some (.string (its.getD j ByteArray.empty))

theorem walk (a0 : Option Addr) (len0 cap0 : Nat) (its : List ByteArray) (a1 : Int) (a2 : ByteArray) (w : World) (w0 : IsStrs its w a0 len0 cap0) (w1 : (Lit.int .u8 a1).wf = true) :
    Calls Yba.prog 4 #[.slice a0 len0 cap0, .int .u8 a1, .string a2] w fun e w' => e = .returned (.bool true) ∧ Below w.heap.size w w' := by
  obtain ⟨l1, u1⟩ := bounds_u8 w1
  obtain ⟨p, rfl⟩ := Int.eq_ofNat_of_zero_le l1
  by_cases hbig : 1024 < len0
  · exact pop_many a0 len0 cap0 p a2 w hbig
  obtain ⟨hl, hlc, hm, hnil, hc⟩ := w0
  unfold maxLen at hm
  by_cases h0 : len0 = 0
  · subst h0
    exact pop_zero a0 cap0 p a2 w (by omega) (by omega) hnil
  obtain ⟨b0, o0, rfl, _⟩ := hc 0 (by omega)
  refine pop_main b0 o0 cap0 its len0 p a2 w hl (by omega) (by omega) (by omega) hlc (by omega) (fun j hj => ?_)
  obtain ⟨b, o, e, h⟩ := hc j hj
  simp only [Option.some.injEq, Addr.mk.injEq, and_true] at e
  obtain ⟨rfl, rfl⟩ := e
  exact h

/-! ### THE ROW's STEP -/
set_option maxRecDepth 100000 in
theorem lifted (os : Os) (started : os.Started) (H : Type) (enc : TypeId × Value → H) :
    ReturnsInHanded {} Yba.checked os 4 .any (Rows.lawS0557BPlainPopSpec.pre6 enc Yba.prog Yba.f4 Rows.lawS0557BPlainPopRow.domain false) (Rows.lawS0557BPlainPopSpec.post enc Yba.prog Yba.f4 false true false false) := by
  refine returnsInHanded_of_change (C := Yba.checked) own started (by kernel_rfl) Yba.func4
    (ChangeSpec.witness6 (enc := enc) (C := Yba.checked) false ⟨#[], #[.slice none 0 0, .int .u8 0, .string ByteArray.empty], []⟩ 8 (by kernel_rfl) (by kernel_rfl) (by kernel_rfl) (by kernel_rfl)) ?_
  intro W base args ds gs before hval0 hW hcnd _
  have hval : ∀ (j : Nat) t v, Yba.f4.params[j]? = some t → args[j]? = some v → Value.okWide Yba.prog W .any base t v := hval0
  have hW' := hW
  obtain ⟨p, q, hA0, hV, rfl, hfz, hnd⟩ := hW
  have hA : DataW.TrodAll enc Yba.prog W 0 (fun _ => true) true Yba.f4.params.toList args.toList ds p := hA0
  rw [Yba.params4] at hA hval
  obtain ⟨v0, vs0, d0, ds0, p0, q0, hargs, rfl, rfl, h0, r0⟩ := trodAll_cons hA
  obtain ⟨v1, vs1, d1, ds1, p1, q1, rfl, rfl, rfl, h1, r1⟩ := trodAll_cons r0
  obtain ⟨v2, vs2, d2, ds2, p2, q2, rfl, rfl, rfl, h2, r2⟩ := trodAll_cons r1
  obtain ⟨rfl, rfl, rfl⟩ := trodAll_nil r2
  obtain rfl : args = #[v0, v1, v2] := by cases args; simp_all
  obtain ⟨rfl, rfl⟩ := trodVars_none hV
  obtain ⟨a0, len0, cap0, rfl⟩ := okWide_slice Yba.underlying29 (hval 0 29 v0 rfl rfl)
  have k0 := h0
  have lt0 : ∀ x ∈ p0, x.block < W.heap.size := by obtain ⟨m, hm⟩ := k0; exact DataW.trod_lt m _ _ _ hm
  obtain ⟨its, w0⟩ : ∃ its : List ByteArray, IsStrs its W a0 len0 cap0 := by
    obtain ⟨fuel, hf⟩ := h0
    rcases open_strings Yba.underlying29 Yba.underlying9 (by kernel_rfl) hf with ⟨hcs, _⟩ | ⟨x, l, c, ss, hcs, _, hl, hm, hz, _, hcell, _⟩
    · simp [Value.cells] at hcs
      obtain ⟨rfl, rfl, rfl⟩ := hcs
      exact ⟨[], rfl, Nat.le_refl _, Nat.zero_le _, fun _ => rfl, fun j hj => absurd hj (Nat.not_lt_zero _)⟩
    · simp [Value.cells] at hcs
      obtain ⟨rfl, rfl, rfl⟩ := hcs
      simp at hz
      refine ⟨ss.take len0, by rw [List.length_take]; omega, hl, hm, (fun h => by cases h), fun j hj => ?_⟩
      obtain ⟨b, off, spot⟩ := x
      have hspot : spot = none := by simpa [Addr.add] using World.cell?_spot (hcell 0 (by omega))
      subst hspot
      refine ⟨b, off, rfl, ?_⟩
      rw [← Go.WideShapes.add_plain, hcell j (by omega)]
      simp [hj]
  obtain ⟨a1, rfl, rfl, rfl, w1⟩ := open_int Yba.underlying5 (hval 1 5 v1 rfl rfl) h1
  obtain ⟨a2, rfl, rfl, rfl, w2⟩ := open_string Yba.underlying9 (hval 2 9 v2 rfl rfl) h2
  clear hA0 hval0
  refine (walk a0 len0 cap0 its a1 a2 W w0 w1).mono fun e W' ⟨he, bel⟩ => ?_
  subst he
  exact ⟨_, rfl, _, _, _, [], _, [], hW', trodAll_mk1 (shut_bool Yba.underlying4 _), (trodAll_cons_mk (Below.trod laidOut (by kernel_rfl) (of_decide_eq_true (by kernel_rfl)) k0 bel lt0) (trodAll_cons_mk (shut_int Yba.underlying5 w1) (trodAll_cons_mk (shut_string Yba.underlying9 w2) trodAll_mk0))), rfl, bel.frame _, fun h => by cases h⟩

theorem over : Rows.lawS0557BPlainPopRow.holds Yba.pinned (OpenSpec.ofChange Rows.lawS0557BPlainPopSpec) :=
  OpenClaim.holds_of_wide 4 Yba.f4 rfl rfl rfl rfl rfl rfl rfl ⟨rfl, rfl, rfl, rfl, rfl⟩ rfl rfl rfl rfl rfl (by kernel_rfl) Yba.func4 (by kernel_rfl)
    (of_decide_eq_true (by kernel_rfl)) (by unfold Func.isWrapper; first | (rw [if_pos (by decide +kernel)]; kernel_rfl) | (rw [if_neg (by decide +kernel)]; exact ⟨rfl, rfl⟩))
    (fun os started H enc _ => lifted os started H enc)

/-- ████ THE STATEMENT ████ -/
theorem proved : Rows.LawS0557BPlainPopSaid := over
#print axioms proved
end Go.Proofs.Ybulkkmy.lawS0557BPlainPop
