/-
  THE PROOF OF 'Rows.LawS0557CJoinTakeSaid' ('example.com/lexwright/lexwright.LawS0557CJoinTake'): the program-written shell, its one hole filled: the walk.
-/
import Derived.Test.YbulkkmyRows
import Derived.WalkKit
import Derived.ProofKit
import Derived.OpenShut
import Derived.ShutString
import Derived.Test.YbulkkmyJoinWalks
namespace Go.Proofs.Ybulkkmy.lawS0557CJoinTake
open Go.ChangeShapes Go.WideShapes Go.ChangeAt Go.RowKit
open Go.ChangeMaps (open_string shut_string)
set_option linter.unusedVariables false      -- a walk need not use every 'w<i>' (that an integer argument fits its kind)

theorem own : ownKnob Yba.prog.godebug = none := by kernel_rfl

/-! ### STEP 1: THE WALK: the Go text returns true. 'Grown w w'': the world has at most new blocks (Derived/RowKit3.lean). Part the cases AHEAD of 'go_enter' where a test parts the walk; take each callee by a contract of your own. -/
def Duo (w : World) (s t : ByteArray) (n m : Int) (W : World) : Prop := ∃ x y, Two w w.heap.size x y (hd1 x y n) s t n m W
def Solo (w : World) (s t : ByteArray) (m : Int) (W : World) : Prop := ∃ x y, Two w w.heap.size x y (hd2 y m) s t 0 m W
theorem walk (a0 : ByteArray) (a1 : ByteArray) (a2 : Int) (a3 : Int) (w2 : (Lit.int .u8 a2).wf = true) (w3 : (Lit.int .u8 a3).wf = true) (w : World) :
    Calls Yba.prog 7 #[.string a0, .string a1, .int .u8 a2, .int .u8 a3] w fun e w' => e = .returned (.bool true) ∧ Below w.heap.size w w' := by
  obtain ⟨l2, u2⟩ := bounds_u8 w2
  obtain ⟨l3, u3⟩ := bounds_u8 w3
  have m0 : 0 ≤ a2 % 8 := by omega
  have m1 : a2 % 8 ≤ 7 := by omega
  have n0 : 0 ≤ a3 % 8 := by omega
  have n1 : a3 % 8 ≤ 7 := by omega
  clear w2 w3
  by_cases heq : (a0.toList == a1.toList) = true
  · have e01 : a0 = a1 := by
      rw [beq_iff_eq, ByteArray.toList_eq, ByteArray.toList_eq] at heq
      exact ByteArray.ext (Array.ext' heq)
    subst e01
    clear heq
    go_enter Yba.func7, Yba.ntmps7
    go_wp2_with (go_at_call 15; refine (join_same a0 (a2 % 8 + 1) (a3 % 8 + 1) w (by omega) (by omega) (by omega) (by omega)).mono ?_; rintro e w' ⟨rfl, hk⟩)
    go_loopw [12] (fun i wr => ∃ k : Nat, (k : Int) ≤ a2 % 8 + 1 ∧ i = .int .i64 k ∧ One w w.heap.size a0 (a2 % 8 + 1 + (a3 % 8 + 1) - k) wr) (fun i _ => 8 - (intOf i).toNat)
    case atStart => exact ⟨0, by omega, rfl, by simpa using hk⟩
    case round =>
      clear hk
      obtain ⟨k, hk, rfl, ho⟩ := hrel
      by_cases hlt : (k : Int) < a2 % 8 + 1
      · have h12 := one_empty ho (by omega)
        have h16 := one_take ho (by omega) (by omega)
        go_wp2_with (first | (go_at_call 12; refine h12.mono ?_; rintro e w' ⟨rfl, rfl⟩) | (go_at_call 16; refine h16.mono ?_; rintro e w' ⟨rfl, hk'⟩))
        go_roundw
        case rel => exact ⟨k + 1, by omega, by go_num, by rw [show a2 % 8 + 1 + (a3 % 8 + 1) - ((k + 1 : Nat) : Int) = a2 % 8 + 1 + (a3 % 8 + 1) - (k : Int) - 1 by omega]; exact hk'⟩
        case measure => simp [intOf]; omega
      · have hkk : (k : Int) = a2 % 8 + 1 := by omega
        have ho' : One w w.heap.size a0 (a3 % 8 + 1) wr := by rw [show a3 % 8 + 1 = a2 % 8 + 1 + (a3 % 8 + 1) - (k : Int) by omega]; exact ho
        clear ho hkk
        go_wp2
        go_loopw [13] (fun i wr => ∃ j : Nat, (j : Int) ≤ a3 % 8 + 1 ∧ i = .int .i64 j ∧ One w w.heap.size a0 (a3 % 8 + 1 - j) wr) (fun i _ => 8 - (intOf i).toNat)
        case atStart => exact ⟨0, by omega, rfl, by simpa using ho'⟩
        case round =>
          clear ho'
          obtain ⟨j, hj, rfl, ho⟩ := hrel
          by_cases hlt : (j : Int) < a3 % 8 + 1
          · have h12 := one_empty ho (by omega)
            have h16 := one_take ho (by omega) (by omega)
            go_wp2_with (first | (go_at_call 12; refine h12.mono ?_; rintro e w' ⟨rfl, rfl⟩) | (go_at_call 16; refine h16.mono ?_; rintro e w' ⟨rfl, hk'⟩))
            go_roundw
            case rel => exact ⟨j + 1, by omega, by go_num, by rw [show a3 % 8 + 1 - ((j + 1 : Nat) : Int) = a3 % 8 + 1 - (j : Int) - 1 by omega]; exact hk'⟩
            case measure => simp [intOf]; omega
          · have hz : a3 % 8 + 1 - (j : Int) = 0 := by omega
            rw [hz] at ho
            clear hz
            have h12 := one_end ho
            go_wp2_with (go_at_call 12; refine h12.mono ?_; rintro e w' ⟨rfl, rfl⟩)
            go_ret
            exact ⟨rfl, ho.2⟩
  · have hne : (a0.toList == a1.toList) = false := by simpa using heq
    clear heq
    have hl := ls_new w a0 (a2 % 8 + 1) none none
    go_enter Yba.func7, Yba.ntmps7
    go_wp2_with (go_at_call 15; refine (join_diff w.heap.size a0 a1 (a2 % 8 + 1) (a3 % 8 + 1) _ (by omega) (by omega) hne hl).mono ?_; rintro e w' ⟨rfl, hk⟩)
    go_loopw [12] (fun i wr => ∃ k : Nat, (k : Int) ≤ a2 % 8 + 1 ∧ i = .int .i64 k ∧ Duo w a0 a1 (a2 % 8 + 1 - k) (a3 % 8 + 1) wr) (fun i _ => 8 - (intOf i).toNat)
    case atStart => exact ⟨0, by omega, rfl, w.heap.size + 1 + 1, w.heap.size + 1 + 1 + 1, by
        rw [show a2 % 8 + 1 - ((0 : Nat) : Int) = a2 % 8 + 1 by omega, show hd1 (w.heap.size + 1 + 1) (w.heap.size + 1 + 1 + 1) (a2 % 8 + 1) = some ⟨w.heap.size + 1 + 1, 0, none⟩ from if_pos (by omega)]
        rw [World.size_alloc] at hk
        exact ⟨hk.1, hk.2.1, hk.2.2.1, hk.2.2.2.1, hk.2.2.2.2.1, ((Below.refl _ _).alloc (Nat.le_refl _) _).trans hk.2.2.2.2.2⟩⟩
    case round =>
      clear hk
      obtain ⟨k, hk, rfl, x, y, ho⟩ := hrel
      by_cases hlt : (k : Int) < a2 % 8 + 1
      · have h16 := two_take1 ho (by omega) (by omega)
        rw [show hd1 x y (a2 % 8 + 1 - (k : Int)) = some ⟨x, 0, none⟩ from if_pos (by omega)] at ho
        have h12 := two_empty ho
        clear ho
        go_wp2_with (first | (go_at_call 12; refine h12.mono ?_; rintro e w' ⟨rfl, rfl⟩) | (go_at_call 16; refine h16.mono ?_; rintro e w' ⟨rfl, hk'⟩))
        go_roundw
        case rel => exact ⟨k + 1, by omega, by go_num, x, y, by rw [show a2 % 8 + 1 - ((k + 1 : Nat) : Int) = a2 % 8 + 1 - (k : Int) - 1 by omega]; exact hk'⟩
        case measure => simp [intOf]; omega
      · have hz : a2 % 8 + 1 - (k : Int) = 0 := by omega
        rw [hz] at ho
        have ho' : Solo w a0 a1 (a3 % 8 + 1) wr := ⟨x, y, by
          rw [show hd2 y (a3 % 8 + 1) = some ⟨y, 0, none⟩ from if_pos (by omega)]
          rw [show hd1 x y 0 = some ⟨y, 0, none⟩ from if_neg (by omega)] at ho
          exact ho⟩
        clear ho hz
        go_wp2
        go_loopw [13] (fun i wr => ∃ j : Nat, (j : Int) ≤ a3 % 8 + 1 ∧ i = .int .i64 j ∧ Solo w a0 a1 (a3 % 8 + 1 - j) wr) (fun i _ => 8 - (intOf i).toNat)
        case atStart => exact ⟨0, by omega, rfl, by simpa using ho'⟩
        case round =>
          clear ho'
          obtain ⟨j, hj, rfl, x, y, ho⟩ := hrel
          by_cases hlt : (j : Int) < a3 % 8 + 1
          · have h16 := two_take2 ho (by omega) (by omega)
            rw [show hd2 y (a3 % 8 + 1 - (j : Int)) = some ⟨y, 0, none⟩ from if_pos (by omega)] at ho
            have h12 := two_empty ho
            clear ho
            go_wp2_with (first | (go_at_call 12; refine h12.mono ?_; rintro e w' ⟨rfl, rfl⟩) | (go_at_call 16; refine h16.mono ?_; rintro e w' ⟨rfl, hk'⟩))
            go_roundw
            case rel => exact ⟨j + 1, by omega, by go_num, x, y, by rw [show a3 % 8 + 1 - ((j + 1 : Nat) : Int) = a3 % 8 + 1 - (j : Int) - 1 by omega]; exact hk'⟩
            case measure => simp [intOf]; omega
          · have hz : a3 % 8 + 1 - (j : Int) = 0 := by omega
            rw [hz, show hd2 y 0 = none from if_neg (by omega)] at ho
            clear hz
            have h12 := two_end ho
            go_wp2_with (go_at_call 12; refine h12.mono ?_; rintro e w' ⟨rfl, rfl⟩)
            go_ret
            exact ⟨rfl, ho.2.2.2.2.2⟩

/-! ### THE ROW's STEP: WRITTEN OUT: LEAVE IT -/
set_option maxRecDepth 100000 in
theorem lifted (os : Os) (started : os.Started) (H : Type) (enc : TypeId × Value → H) :
    ReturnsInHanded {} Yba.checked os 7 .any (Rows.lawS0557CJoinTakeSpec.pre6 enc Yba.prog Yba.f7 Rows.lawS0557CJoinTakeRow.domain false) (Rows.lawS0557CJoinTakeSpec.post enc Yba.prog Yba.f7 false true false false) := by
  refine returnsInHanded_of_change (C := Yba.checked) own started (by kernel_rfl) Yba.func7
    (ChangeSpec.witness6 (enc := enc) (C := Yba.checked) false ⟨#[], #[.string ByteArray.empty, .string ByteArray.empty, .int .u8 0, .int .u8 0], []⟩ 8 (by kernel_rfl) (by kernel_rfl) (by kernel_rfl) (by kernel_rfl)) ?_
  intro W base args ds gs before hval0 hW hcnd _
  have hval : ∀ (j : Nat) t v, Yba.f7.params[j]? = some t → args[j]? = some v → Value.okWide Yba.prog W .any base t v := hval0
  have hW' := hW
  obtain ⟨p, q, hA0, hV, rfl, hfz, hnd⟩ := hW
  have hA : DataW.TrodAll enc Yba.prog W 0 (fun _ => true) true Yba.f7.params.toList args.toList ds p := hA0
  rw [Yba.params7] at hA hval
  obtain ⟨v0, vs0, d0, ds0, p0, q0, hargs, rfl, rfl, h0, r0⟩ := trodAll_cons hA
  obtain ⟨v1, vs1, d1, ds1, p1, q1, rfl, rfl, rfl, h1, r1⟩ := trodAll_cons r0
  obtain ⟨v2, vs2, d2, ds2, p2, q2, rfl, rfl, rfl, h2, r2⟩ := trodAll_cons r1
  obtain ⟨v3, vs3, d3, ds3, p3, q3, rfl, rfl, rfl, h3, r3⟩ := trodAll_cons r2
  obtain ⟨rfl, rfl, rfl⟩ := trodAll_nil r3
  obtain rfl : args = #[v0, v1, v2, v3] := by cases args; simp_all
  obtain ⟨rfl, rfl⟩ := trodVars_none hV
  obtain ⟨a0, rfl, rfl, rfl, w0⟩ := open_string Yba.underlying9 (hval 0 9 v0 rfl rfl) h0
  obtain ⟨a1, rfl, rfl, rfl, w1⟩ := open_string Yba.underlying9 (hval 1 9 v1 rfl rfl) h1
  obtain ⟨a2, rfl, rfl, rfl, w2⟩ := open_int Yba.underlying5 (hval 2 5 v2 rfl rfl) h2
  obtain ⟨a3, rfl, rfl, rfl, w3⟩ := open_int Yba.underlying5 (hval 3 5 v3 rfl rfl) h3
  clear hA0 hval0
  simp only [List.append_nil] at hW'
  refine (walk a0 a1 a2 a3 w2 w3 W).mono fun e W' ⟨he, bel⟩ => ?_
  subst he
  exact ⟨_, rfl, _, _, _, [], _, [], hW', trodAll_mk1 (shut_bool Yba.underlying4 _), (trodAll_cons_mk (shut_string Yba.underlying9 w0) (trodAll_cons_mk (shut_string Yba.underlying9 w1) (trodAll_cons_mk (shut_int Yba.underlying5 w2) (trodAll_cons_mk (shut_int Yba.underlying5 w3) trodAll_mk0)))), rfl, bel.frame _, fun h => by cases h⟩

theorem over : Rows.lawS0557CJoinTakeRow.holds Yba.pinned (OpenSpec.ofChange Rows.lawS0557CJoinTakeSpec) :=
  OpenClaim.holds_of_wide 7 Yba.f7 rfl rfl rfl rfl rfl rfl rfl ⟨rfl, rfl, rfl, rfl, rfl⟩ rfl rfl rfl rfl rfl (by kernel_rfl) Yba.func7 (by kernel_rfl)
    (of_decide_eq_true (by kernel_rfl)) (by unfold Func.isWrapper; first | (rw [if_pos (by decide +kernel)]; kernel_rfl) | (rw [if_neg (by decide +kernel)]; exact ⟨rfl, rfl⟩))
    (fun os started H enc _ => lifted os started H enc)

/-- ████ THE STATEMENT ████ -/
theorem proved : Rows.LawS0557CJoinTakeSaid :=
  over
#print axioms proved
end Go.Proofs.Ybulkkmy.lawS0557CJoinTake
