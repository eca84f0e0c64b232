/-
  THE PROOF OF 'Rows.LawS0568CExactSaid' ('example.com/orrery/orrery/pkg/divisible.LawS0568CExact'): the frame after the program-written shells, at a slice of float64, a uint16 and two float64.
-/
import Derived.Test.YbulkkswExactWalk
import Derived.ProofKit
import Derived.OpenShut
import Derived.ShutString
import Derived.ChangeOld
import Derived.Deep.Slices
namespace Go.Proofs.Ybulkksw.lawS0568CExact
open Go.ChangeShapes Go.WideShapes Go.ChangeAt Go.RowKit
open Go.ChangeMaps (open_string shut_string)
set_option linter.unusedVariables false

theorem own : ownKnob Yba.prog.godebug = none := by kernel_rfl
theorem laidOut : laidOutB Yba.prog = true := by kernel_rfl

/-- What the walk is told of the slice that came in: its elements are floats behind its address. -/
def IsRow (F : Nat → Nat) (w : World) (a : Option Addr) (len : Nat) : Prop := ∀ j, j < len → ∃ b o, a = some ⟨b, o, none⟩ ∧ w.cell? ⟨b, o + j, none⟩ = some (.float .f64 (F j))

theorem walk (a0 : Option Addr) (len0 cap0 : Nat) (F : Nat → Nat) (a1 : Int) (p t : Nat) (w : World) (w0 : IsRow F w a0 len0) (w1 : (Lit.int .u16 a1).wf = true) :
    Calls Yba.prog 4 #[.slice a0 len0 cap0, .int .u16 a1, .float .f64 p, .float .f64 t] w fun e w' => e = .returned (.bool true) ∧ Below w.heap.size w w' := by
  obtain ⟨l1, u1⟩ := bounds_u16 w1
  obtain ⟨k, rfl⟩ := Int.eq_ofNat_of_zero_le l1
  by_cases h : len0 = 0 ∨ 1024 < len0
  · exact exact_none a0 len0 cap0 k p t w h
  obtain ⟨b0, o0, rfl, _⟩ := w0 0 (by omega)
  refine exact_some b0 o0 len0 cap0 k p t F w (by omega) (by omega) (by omega) (fun j hj => ?_)
  obtain ⟨b, o, e, h⟩ := w0 j hj
  simp only [Option.some.injEq, Addr.mk.injEq, and_true] at e
  obtain ⟨rfl, rfl⟩ := e
  exact h

/-- A cell that reads as a float64 holds one. -/
theorem float_form {H : Type} {enc : TypeId × Value → H} {P : Program} {w : World} {base : Nat} {spare : Nat → Bool} {held : Bool} {t : TypeId} {n : Nat} {v : Value} {x : DataW H × List MemPlace}
    (ht : P.underlying t = some (.float .f64)) (h : DataW.trod enc P w base spare held n t [v] = some x) : ∃ b, v = .float .f64 b := by
  cases n with
  | zero => simp [DataW.trod] at h
  | succ n =>
    simp only [DataW.trod, ht] at h
    cases v <;> simp_all

/-! ### THE ROW's STEP -/
set_option maxRecDepth 100000 in
theorem lifted (os : Os) (started : os.Started) (H : Type) (enc : TypeId × Value → H) :
    ReturnsInHanded {} Yba.checked os 4 .any (Rows.lawS0568CExactSpec.pre6 enc Yba.prog Yba.f4 Rows.lawS0568CExactRow.domain false) (Rows.lawS0568CExactSpec.post enc Yba.prog Yba.f4 false true false false) := by
  refine returnsInHanded_of_change (C := Yba.checked) own started (by kernel_rfl) Yba.func4
    (ChangeSpec.witness6 (enc := enc) (C := Yba.checked) false ⟨#[], #[.slice none 0 0, .int .u16 0, .float .f64 0, .float .f64 0], []⟩ 8 (by kernel_rfl) (by kernel_rfl) (by kernel_rfl) (by kernel_rfl)) ?_
  intro W base args ds gs before hval0 hW hcnd _
  have hval : ∀ (j : Nat) t v, Yba.f4.params[j]? = some t → args[j]? = some v → Value.okWide Yba.prog W .any base t v := hval0
  have hW' := hW
  obtain ⟨p, q, hA0, hV, rfl, hfz, hnd⟩ := hW
  have hA : DataW.TrodAll enc Yba.prog W 0 (fun _ => true) true Yba.f4.params.toList args.toList ds p := hA0
  rw [Yba.params4] at hA hval
  obtain ⟨v0, vs0, d0, ds0, p0, q0, hargs, rfl, rfl, h0, r0⟩ := trodAll_cons hA
  obtain ⟨v1, vs1, d1, ds1, p1, q1, rfl, rfl, rfl, h1, r1⟩ := trodAll_cons r0
  obtain ⟨v2, vs2, d2, ds2, p2, q2, rfl, rfl, rfl, h2, r2⟩ := trodAll_cons r1
  obtain ⟨v3, vs3, d3, ds3, p3, q3, rfl, rfl, rfl, h3, r3⟩ := trodAll_cons r2
  obtain ⟨rfl, rfl, rfl⟩ := trodAll_nil r3
  obtain rfl : args = #[v0, v1, v2, v3] := by cases args; simp_all
  obtain ⟨rfl, rfl⟩ := trodVars_none hV
  obtain ⟨a0, len0, cap0, rfl⟩ := okWide_slice Yba.underlying38 (hval 0 38 v0 rfl rfl)
  have k0 := h0
  have lt0 : ∀ x ∈ p0, x.block < W.heap.size := by obtain ⟨m, hm⟩ := k0; exact DataW.trod_lt m _ _ _ hm
  obtain ⟨F, w0⟩ : ∃ F : Nat → Nat, IsRow F W a0 len0 := by
    obtain ⟨fuel, hf⟩ := h0
    rcases Deep.open_slice1 Yba.underlying38 (by kernel_rfl) hf with ⟨hcs, _⟩ | ⟨x, l, c, m, n, V, D, Pl, hcs, _, hl, hm, hz, _, hcell⟩
    · simp [Value.cells] at hcs
      obtain ⟨rfl, rfl, rfl⟩ := hcs
      exact ⟨fun _ => 0, fun j hj => absurd hj (Nat.not_lt_zero _)⟩
    · simp [Value.cells] at hcs
      obtain ⟨rfl, rfl, rfl⟩ := hcs
      simp at hz
      obtain ⟨F, hF⟩ := Deep.choose_lt (α := Nat) (n := len0) (p := fun i b => V i = .float .f64 b) (fun i hi => float_form Yba.underlying40 (hcell i (by omega)).2)
      refine ⟨F, fun j hj => ?_⟩
      obtain ⟨b, off, spot⟩ := x
      have hspot : spot = none := by simpa [Addr.add] using World.cell?_spot (hcell 0 (by omega)).1
      subst hspot
      refine ⟨b, off, rfl, ?_⟩
      rw [← Go.WideShapes.add_plain, (hcell j (by omega)).1, hF j hj]
  obtain ⟨a1, rfl, rfl, rfl, w1⟩ := open_int Yba.underlying39 (hval 1 39 v1 rfl rfl) h1
  obtain ⟨a2, rfl, rfl, rfl, w2⟩ := open_float Yba.underlying40 (hval 2 40 v2 rfl rfl) h2
  obtain ⟨a3, rfl, rfl, rfl, w3⟩ := open_float Yba.underlying40 (hval 3 40 v3 rfl rfl) h3
  clear hA0 hval0
  refine (walk a0 len0 cap0 F a1 a2 a3 W w0 w1).mono fun e W' ⟨he, bel⟩ => ?_
  subst he
  exact ⟨_, rfl, _, _, _, [], _, [], hW', trodAll_mk1 (shut_bool Yba.underlying4 _), (trodAll_cons_mk (Below.trod laidOut (by kernel_rfl) (of_decide_eq_true (by kernel_rfl)) k0 bel lt0) (trodAll_cons_mk (shut_int Yba.underlying39 w1) (trodAll_cons_mk (shut_float Yba.underlying40 w2) (trodAll_cons_mk (shut_float Yba.underlying40 w3) trodAll_mk0)))), rfl, bel.frame _, fun h => by cases h⟩

theorem over : Rows.lawS0568CExactRow.holds Yba.pinned (OpenSpec.ofChange Rows.lawS0568CExactSpec) :=
  OpenClaim.holds_of_wide 4 Yba.f4 rfl rfl rfl rfl rfl rfl rfl ⟨rfl, rfl, rfl, rfl, rfl⟩ rfl rfl rfl rfl rfl (by kernel_rfl) Yba.func4 (by kernel_rfl)
    (of_decide_eq_true (by kernel_rfl)) (by unfold Func.isWrapper; first | (rw [if_pos (by decide +kernel)]; kernel_rfl) | (rw [if_neg (by decide +kernel)]; exact ⟨rfl, rfl⟩))
    (fun os started H enc _ => lifted os started H enc)

/-- ████ THE STATEMENT ████ -/
theorem proved : Rows.LawS0568CExactSaid := over
#print axioms proved
end Go.Proofs.Ybulkksw.lawS0568CExact
