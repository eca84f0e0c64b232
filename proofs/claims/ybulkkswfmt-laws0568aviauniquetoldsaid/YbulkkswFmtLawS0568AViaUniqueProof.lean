/-
  THE PROOF OF 'Rows.LawS0568AViaUniqueToldSaid' (the told card of 'example.com/orrery/orrery/pkg/lines.LawS0568AViaUnique'): the frame after the guide's told rows, at a slice of int64 and an int64. fmt's text is told by the authors' own function; on this law's road fmt is never come to (an id that was recorded is not handed to Unique).
-/
import Derived.Test.YbulkkswFmtCards
import Derived.Test.YbulkkswFmtCheck
import Derived.WalkKit
import Derived.ProofKit
import Derived.OpenShut
import Derived.ShutString
import Derived.ChangeOld
import Derived.Below
import Derived.Stop.JoinedAt
import Derived.Stop.JoinedTold
import Derived.SevenToldRow
namespace Go.Proofs.YbulkkswFmt.lawS0568AViaUnique
open Go.ChangeShapes Go.WideShapes Go.ChangeAt Go.RowKit
open Go.ChangeMaps (open_string shut_string)
open Go.Extern.Stop Go.Stop Go.Extern
set_option linter.unusedVariables false

theorem own : ownKnob Ybaf.prog.godebug = none := by kernel_rfl
theorem laidOut : laidOutB Ybaf.prog = true := by kernel_rfl

/-- What the walk is told of the slice that came in: its elements are int64s behind its address. -/
def IsRow (Z : Nat → Int) (w : World) (a : Option Addr) (len cap : Nat) : Prop :=
  len ≤ cap ∧ cap ≤ maxLen ∧ ∀ j, j < len → (Lit.int .i64 (Z j)).wf = true ∧ ∃ b o, a = some ⟨b, o, none⟩ ∧ w.cell? ⟨b, o + j, none⟩ = some (.int .i64 (Z j))

theorem walk (a0 : Option Addr) (len0 cap0 : Nat) (Z : Nat → Int) (a1 : Int) (w : World) (w0 : IsRow Z w a0 len0 cap0) (w1 : (Lit.int .i64 a1).wf = true) :
    Calls Ybaf.prog 3 #[.slice a0 len0 cap0, .int .i64 a1] w fun e w' => e = .returned (.bool true) ∧ Below w.heap.size w w' := by
  obtain ⟨hlc, hm, hc⟩ := w0
  unfold maxLen at hm
  by_cases hbig : 1024 < len0
  · exact law_many a0 len0 cap0 a1 w hbig
  by_cases h0 : len0 = 0
  · subst h0
    exact law_none a0 cap0 a1 w w1
  obtain ⟨_, b0, o0, rfl, _⟩ := hc 0 (by omega)
  refine law_some b0 o0 len0 cap0 Z a1 w (by omega) (by omega) hlc (by omega) (fun j hj => ?_) w1 (fun j hj => (hc j hj).1)
  obtain ⟨_, b, o, e, h⟩ := hc j hj
  simp only [Option.some.injEq, Addr.mk.injEq, and_true] at e
  obtain ⟨rfl, rfl⟩ := e
  exact h

/-! ### THE ROW's STEP -/
set_option maxRecDepth 100000 in
theorem lifted (os : Os) (started : os.Started) (H : Type) (enc : TypeId × Value → H) :
    ReturnsInTold none {} Ybaf.checked os 3 .any Input.okWide ((OpenSpec.ofChange Rows.lawS0568AViaUniqueSpec).preRow enc Ybaf.prog Ybaf.f3 [] false []) (fun F => ((OpenSpec.ofChange Rows.lawS0568AViaUniqueSpec).at F).post enc Ybaf.prog Ybaf.f3 false true false false) (aloneAtReturn Ybaf.prog) nothingAlways := by
  refine returnsInTold_of_row (C := Ybaf.checked) (s := OpenSpec.ofChange Rows.lawS0568AViaUniqueSpec) (by kernel_rfl) own started (by kernel_rfl) Ybaf.func3
    (OpenSpec.witness_stopped (enc := enc) (C := Ybaf.checked) false ⟨#[], #[.slice none 0 0, .int .i64 0], []⟩ 8 (by kernel_rfl) (by kernel_rfl) (by kernel_rfl) (by kernel_rfl)) ?_
  intro F W base args ds gs before _ hF hval0 hW _ _ _ _ _
  have hval : ∀ (j : Nat) t v, Ybaf.f3.params[j]? = some t → args[j]? = some v → Value.okWide Ybaf.prog W .any base t v := hval0
  have hW' := hW
  obtain ⟨p, q, hA0, hV, rfl, hfz, hnd⟩ := hW
  have hA : DataW.TrodAll enc Ybaf.prog W 0 (fun _ => true) true Ybaf.f3.params.toList args.toList ds p := hA0
  rw [Ybaf.params3] at hA hval
  obtain ⟨v0, vs0, d0, ds0, p0, q0, hargs, rfl, rfl, h0, r0⟩ := trodAll_cons hA
  obtain ⟨v1, vs1, d1, ds1, p1, q1, rfl, rfl, rfl, h1, r1⟩ := trodAll_cons r0
  obtain ⟨rfl, rfl, rfl⟩ := trodAll_nil r1
  obtain rfl : args = #[v0, v1] := by cases args; simp_all
  obtain ⟨rfl, rfl⟩ := trodVars_none hV
  obtain ⟨a0, len0, cap0, rfl⟩ := okWide_slice Ybaf.underlying22 (hval 0 22 v0 rfl rfl)
  have k0 := h0
  have lt0 : ∀ x ∈ p0, x.block < W.heap.size := by obtain ⟨m, hm⟩ := k0; exact DataW.trod_lt m _ _ _ hm
  obtain ⟨Z, w0⟩ : ∃ Z : Nat → Int, IsRow Z W a0 len0 cap0 := by
    obtain ⟨fuel, hf⟩ := h0
    rcases open_ints Ybaf.underlying22 Ybaf.underlying2 (by kernel_rfl) hf with ⟨hcs, _⟩ | ⟨x, l, c, zs, hcs, _, hl, hm, hz, _, hcell, hwz⟩
    · simp [Value.cells] at hcs
      obtain ⟨rfl, rfl, rfl⟩ := hcs
      exact ⟨fun _ => 0, Nat.le_refl _, Nat.zero_le _, fun j hj => absurd hj (Nat.not_lt_zero _)⟩
    · simp [Value.cells] at hcs
      obtain ⟨rfl, rfl, rfl⟩ := hcs
      simp at hz
      refine ⟨fun j => zs.getD j 0, hl, hm, fun j hj => ?_⟩
      obtain ⟨b, off, rfl, hc⟩ := ints_at hcell (by omega)
      refine ⟨hwz _ ?_, b, off, rfl, hc j (by omega)⟩
      simp [List.getD, show j < zs.length by omega]
  obtain ⟨a1, rfl, rfl, rfl, w1⟩ := open_int Ybaf.underlying2 (hval 1 2 v1 rfl rfl) h1
  clear hA0 hval0
  refine (walk a0 len0 cap0 Z a1 W w0 w1).mono fun e W' ⟨he, bel⟩ => ?_
  subst he
  exact ⟨_, rfl, _, _, _, [], _, [], hW', trodAll_mk1 (shut_bool Ybaf.underlying4 _), (trodAll_cons_mk (Below.trod laidOut (by kernel_rfl) (of_decide_eq_true (by kernel_rfl)) k0 bel lt0) (trodAll_cons_mk (shut_int Ybaf.underlying2 w1) trodAll_mk0)), rfl, bel.frame _, fun h => by cases h⟩

theorem stops : Ybaf.pinned.checked.prog.stops = Rows.lawS0568AViaUniqueRow.stops := by kernel_rfl
theorem stopKnobs : Ybaf.pinned.checked.prog.stopKnobs = [] := by kernel_rfl
theorem quiet (os : Os) : Stop.quiet Ybaf.pinned.checked.prog os := by
  intro k hk
  rw [stopKnobs] at hk
  cases hk

/-- ████ THE STATEMENT ████ -/
theorem proved : Rows.LawS0568AViaUniqueToldSaid :=
  Claim7.holds_of_told_any (p := Ybaf.pinned) (s := OpenSpec.ofChange Rows.lawS0568AViaUniqueSpec) (c := Rows.lawS0568AViaUniqueRow) 3 Ybaf.f3 _ [] [] _ _ _ (by kernel_rfl) rfl rfl rfl laidOut (by kernel_rfl) rfl ⟨rfl, rfl, rfl, rfl, rfl, rfl, rfl⟩ rfl rfl (by kernel_rfl) (by kernel_rfl) Ybaf.func3 (by kernel_rfl)
    (of_decide_eq_true (by kernel_rfl)) (of_decide_eq_true (by kernel_rfl)) stops.symm rfl stopKnobs.symm (by kernel_rfl)
    (by kernel_rfl) (by kernel_rfl) (by kernel_rfl) (by kernel_rfl) (by kernel_rfl) (by kernel_rfl) (by kernel_rfl) (by kernel_rfl) (by kernel_rfl) rfl (by kernel_rfl) rfl rfl
    rfl rfl
    rfl (by kernel_rfl) (by kernel_rfl) (by kernel_rfl) (by decide) (by kernel_rfl)
    (OpenClaim.moreEntering_of (by kernel_rfl) (by kernel_rfl) (by kernel_rfl) (by kernel_rfl) (by kernel_rfl) (by kernel_rfl) (by kernel_rfl) (by kernel_rfl) (by kernel_rfl) (by kernel_rfl))
    ⟨_, WideRow.started_initial, quiet _⟩
    (fun os started _ H enc _ => lifted os started H enc)
#print axioms proved
end Go.Proofs.YbulkkswFmt.lawS0568AViaUnique
