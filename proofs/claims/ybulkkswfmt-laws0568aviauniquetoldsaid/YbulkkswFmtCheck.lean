/-
  The walks of zzs0568acheck (8) and of LawS0568AViaUnique itself (3).
-/
import Derived.Test.YbulkkswFmtFallen
namespace Go.Proofs.YbulkkswFmt
open Go.RowKit

set_option maxRecDepth 100000 in
set_option maxHeartbeats 400000 in
theorem check_some {w W : World} {B k : Nat} {ln : Int} {v fv : Value} {rs : List (Int × Int)} {fm : Int → Option Int} (h : St w B k ln v fv rs fm W) (hk : k ≤ 1024) (b o L C : Nat) (Z : Nat → Int) (q : Int) (hL : L ≤ 1024) (hb : b < B)
    (hc : ∀ j, j < L → w.cell? ⟨b, o + j, none⟩ = some (.int .i64 (Z j))) (hq : (Lit.int .i64 q).wf = true) (hZ : ∀ j, j < L → (Lit.int .i64 (Z j)).wf = true) (hall : ∀ x, comb fm rs x = fl Z L x) :
    Calls Ybaf.prog 8 #[.pointer (some ⟨B, 0, none⟩), .slice (some ⟨b, o, none⟩) L C, .int .i64 q] W fun e w' => e = .returned (.bool true) ∧ Below B w w' := by
  have HS : Hid (St w B k ln v fv rs fm W) := h
  have HA : Hid (∀ x, comb fm rs x = fl Z L x) := hall
  have HC : Hid (∀ j, j < L → w.cell? ⟨b, o + j, none⟩ = some (.int .i64 (Z j))) := hc
  have HZ : Hid (∀ j, j < L → (Lit.int .i64 (Z j)).wf = true) := hZ
  have hmod : ∀ (x : Int) (W' : World), Below B w W' → Calls Ybaf.prog 6 #[.slice (some ⟨b, o, none⟩) L C, .int .i64 x] W' fun e w' => e = .returned (lineOf (fl Z L x)) ∧ w' = W' := fun x W' hB' =>
    model_some b o L C Z x W' hL (fun j hj => (hB'.cell (p := ⟨b, o + j, none⟩) hb).trans (hc j hj))
  have hm0 := hmod q W h.2.2.2.2.2
  have hf0 := firstLine_any h hk hq
  rw [hall q] at hf0
  have HM : Hid (∀ (x : Int) (W' : World), Below B w W' → Calls Ybaf.prog 6 #[.slice (some ⟨b, o, none⟩) L C, .int .i64 x] W' fun e w' => e = .returned (lineOf (fl Z L x)) ∧ w' = W') := hmod
  unfold lineOf at hm0 hf0
  generalize (fl Z L q).getD 0 = x0 at hm0 hf0
  generalize (fl Z L q).isSome = b0 at hm0 hf0
  clear h hall hc hZ hmod hq
  go_enter Ybaf.func8, Ybaf.ntmps8
  go_wp2_with fail
  refine hm0.mono ?_
  rintro e w' ⟨rfl, rfl⟩
  go_wp2_with fail
  refine hf0.mono ?_
  rintro e W1 ⟨rfl, hb1⟩
  have HS1 : Hid (St w B k ln v fv rs fm W1) := st_kept HS.out hb1
  clear HS hb1 hm0 hf0
  go_wp2
  go_loopw [11] (fun i wr => ∃ j : Nat, j ≤ L ∧ i = .int .i64 j ∧ Hid (St w B k ln v fv rs fm wr)) (fun i _ => L - (intOf i).toNat)
  case atStart => exact ⟨0, Nat.zero_le _, rfl, HS1⟩
  case round =>
    clear HS1
    obtain ⟨j, hj, rfl, HS⟩ := hrel
    by_cases hlt : j < L
    · have hB' := HS.out.2.2.2.2.2
      have hcj : wr.cell? ⟨b, o + j, none⟩ = some (.int .i64 (Z j)) := (hB'.cell (p := ⟨b, o + j, none⟩) hb).trans (HC.out j hlt)
      have hm := HM.out (Z j) wr hB'
      have hf := firstLine_any HS.out hk (HZ.out j hlt)
      rw [HA.out (Z j)] at hf
      unfold lineOf at hm hf
      generalize (fl Z L (Z j)).getD 0 = x1 at hm hf
      generalize (fl Z L (Z j)).isSome = b1 at hm hf
      have hcb : ∀ W', Below wr.heap.size wr W' → W'.cell? ⟨b, o + j, none⟩ = some (.int .i64 (Z j)) := fun W' h' => (h'.cell (p := ⟨b, o + j, none⟩) (World.block_lt_of_cell? _ _ hcj)).trans hcj
      have HCB : Hid (∀ W', Below wr.heap.size wr W' → W'.cell? ⟨b, o + j, none⟩ = some (.int .i64 (Z j))) := hcb
      clear hB' hcb
      go_wp2_with fail
      refine hm.mono ?_
      rintro e w' ⟨rfl, rfl⟩
      go_wp2_with fail
      refine hf.mono ?_
      rintro e W2 ⟨rfl, hb2⟩
      have HS2 : Hid (St w B k ln v fv rs fm W2) := st_kept HS.out hb2
      clear HS hb2 hm hf HCB hcj
      go_wp2
      go_roundw
      case rel => exact ⟨j + 1, by omega, by go_num, HS2⟩
      case measure => simp [intOf]; omega
    · go_wp2
      go_ret
      exact ⟨rfl, HS.out.2.2.2.2.2⟩

set_option maxRecDepth 100000 in
theorem check_none {w W : World} {B k : Nat} {ln : Int} {v fv : Value} {rs : List (Int × Int)} {fm : Int → Option Int} (h : St w B k ln v fv rs fm W) (hk : k ≤ 1024) (a : Option Addr) (C : Nat) (Z : Nat → Int) (q : Int) (hq : (Lit.int .i64 q).wf = true) (hall : ∀ x, comb fm rs x = fl Z 0 x) :
    Calls Ybaf.prog 8 #[.pointer (some ⟨B, 0, none⟩), .slice a 0 C, .int .i64 q] W fun e w' => e = .returned (.bool true) ∧ Below B w w' := by
  have HS : Hid (St w B k ln v fv rs fm W) := h
  have hm0 := model_none a C Z q W
  have hf0 := firstLine_any h hk hq
  rw [hall q] at hf0
  unfold lineOf at hm0 hf0
  generalize (fl Z 0 q).getD 0 = x0 at hm0 hf0
  generalize (fl Z 0 q).isSome = b0 at hm0 hf0
  clear h hall hq
  go_enter Ybaf.func8, Ybaf.ntmps8
  go_wp2_with fail
  refine hm0.mono ?_
  rintro e w' ⟨rfl, rfl⟩
  go_wp2_with fail
  refine hf0.mono ?_
  rintro e W1 ⟨rfl, hb1⟩
  have HS1 : Hid (St w B k ln v fv rs fm W1) := st_kept HS.out hb1
  clear HS hb1 hm0 hf0
  go_wp2
  go_loop [11] (fun i => i = .int .i64 0) (fun _ => 0)
  case atStart => rfl
  case round =>
    subst hrel
    go_wp2
    go_ret
    exact ⟨rfl, HS1.out.2.2.2.2.2⟩

/-! ### the law -/
theorem st_new (w : World) : St w w.heap.size 0 0 (.slice none 0 0) (.map none) [] (fun _ => none)
    (w.alloc (.cells #[.string { data := #[102] }, .pointer none, .int .i64 0, .slice none 0 0, .nilIface, .bool false, .bool false, .slice none 0 0, .map none] 31)) :=
  ⟨World.rowIs_alloc w _ 31 (rdr 0 (.slice none 0 0) (.map none)) (fun i hi => by
    match i, hi with
    | 0, _ => rfl
    | 1, _ => rfl
    | 2, _ => rfl
    | 3, _ => rfl
    | 4, _ => rfl
    | 5, _ => rfl
    | 6, _ => rfl
    | 7, _ => rfl
    | 8, _ => rfl), World.ownsRow_nil _ _ _ _, .inl ⟨rfl, fun _ => rfl⟩, List.Pairwise.nil, Nat.le_refl _, (Below.refl _ _).alloc (Nat.le_refl _) _⟩
/-- r.line = n. -/
theorem st_line {w W : World} {B k : Nat} {ln : Int} {v fv : Value} {rs : List (Int × Int)} {fm : Int → Option Int} (h : St w B k ln v fv rs fm W) (n : Int) : St w B k n v fv rs fm (W.setCell ⟨B, 2, none⟩ (.int .i64 n)) := by
  obtain ⟨hrow, ho, hf, hs, hk, hB⟩ := h
  refine ⟨(hrow.set 2 _).congr (fun i hi => ?_), ho.kept (grown_setCell W ⟨B, 2, none⟩ _) ?_, fal_kept hf (grown_setCell W ⟨B, 2, none⟩ _) (fun mb e he => ?_), hs, hk, hB.setCell (p := ⟨B, 2, none⟩) (Nat.le_refl _) _⟩
  · match i, hi with
    | 0, _ => rfl
    | 1, _ => rfl
    | 2, _ => rfl
    | 3, _ => rfl
    | 4, _ => rfl
    | 5, _ => rfl
    | 6, _ => rfl
    | 7, _ => rfl
    | 8, _ => rfl
  · cases hv : v.ownBlock with
    | none => exact .inl rfl
    | some j =>
      have := (ho.lt j hv).1
      refine .inr (fun e => ?_)
      simp only [Option.some.injEq] at e
      omega
  · have := (fal_lt hf e).1
    simp only [Option.some.injEq] at he
    omega
theorem st_next {w W : World} {B k : Nat} {ln : Int} {v fv : Value} {rs : List (Int × Int)} {fm : Int → Option Int} (h : St w B k ln v fv rs fm W) : St w B (k + 1) ln v fv rs fm W := by
  obtain ⟨hrow, ho, hf, hs, hk, hB⟩ := h
  exact ⟨hrow, ho, fal_mono hf (by omega), hs, by omega, hB⟩
/-- BEHIND k ROUNDS: what is recorded is what the model says of the first k ids. -/
def Rec (w : World) (B k : Nat) (Z : Nat → Int) (W : World) : Prop := ∃ ln v fv rs fm, St w B k ln v fv rs fm W ∧ ∀ x, comb fm rs x = fl Z k x

set_option maxRecDepth 100000 in
set_option maxHeartbeats 400000 in
theorem law_some (b o L C : Nat) (Z : Nat → Int) (q : Int) (w : World) (hL : L ≤ 1024) (hL0 : 0 < L) (hLC : L ≤ C) (hC : C ≤ 9223372036854775807) (hc : ∀ j, j < L → w.cell? ⟨b, o + j, none⟩ = some (.int .i64 (Z j))) (hq : (Lit.int .i64 q).wf = true) (hZ : ∀ j, j < L → (Lit.int .i64 (Z j)).wf = true) :
    Calls Ybaf.prog 3 #[.slice (some ⟨b, o, none⟩) L C, .int .i64 q] w fun e w' => e = .returned (.bool true) ∧ Below w.heap.size w w' := by
  have hb : b < w.heap.size := World.block_lt_of_cell? _ _ (hc 0 hL0)
  have HC : Hid (∀ j, j < L → w.cell? ⟨b, o + j, none⟩ = some (.int .i64 (Z j))) := hc
  have HZ : Hid (∀ j, j < L → (Lit.int .i64 (Z j)).wf = true) := hZ
  have HR : Hid (Rec w w.heap.size 0 Z (w.alloc (.cells #[.string { data := #[102] }, .pointer none, .int .i64 0, .slice none 0 0, .nilIface, .bool false, .bool false, .slice none 0 0, .map none] 31))) := ⟨_, _, _, _, _, st_new w, fun _ => rfl⟩
  clear hc hZ
  go_enter Ybaf.func3, Ybaf.ntmps3
  go_wp2
  go_loopw [6] (fun i wr => ∃ k : Nat, k ≤ L ∧ i = .int .i64 k ∧ Hid (Rec w w.heap.size k Z wr)) (fun i _ => L - (intOf i).toNat)
  case atStart => exact ⟨0, Nat.zero_le _, rfl, HR⟩
  case round =>
    clear HR
    obtain ⟨k, hk, rfl, HR⟩ := hrel
    obtain ⟨ln, v, fv, rs, fm, hS, hall⟩ := HR.out
    by_cases hlt : k < L
    · have hB' := hS.2.2.2.2.2
      have hck : wr.cell? ⟨b, o + k, none⟩ = some (.int .i64 (Z k)) := (hB'.cell (p := ⟨b, o + k, none⟩) hb).trans (HC.out k hlt)
      have c2 : wr.cell? ⟨w.heap.size, 2, none⟩ = some (.int .i64 ln) := hS.1.cell (i := 2) (by omega)
      have f2 : wr.frozen? ⟨w.heap.size, 2, none⟩ = false := hS.1.frozen 2
      have hS1 := st_line hS ((k : Int) + 1)
      have hm := model_some b o k C Z (Z k) (wr.setCell ⟨w.heap.size, 2, none⟩ (.int .i64 ((k : Int) + 1))) (by omega) (fun j hj => (hS1.2.2.2.2.2.cell (p := ⟨b, o + j, none⟩) hb).trans (HC.out j (by omega)))
      have HS1 : Hid (St w w.heap.size k ((k : Int) + 1) v fv rs fm (wr.setCell ⟨w.heap.size, 2, none⟩ (.int .i64 ((k : Int) + 1)))) := hS1
      have HA : Hid (∀ x, comb fm rs x = fl Z k x) := hall
      clear hB' hS hS1 hall
      cases hfk : fl Z k (Z k) with
      | some l =>
        rw [hfk] at hm
        have HN : Hid (Rec w w.heap.size (k + 1) Z (wr.setCell ⟨w.heap.size, 2, none⟩ (.int .i64 ((k : Int) + 1)))) := ⟨_, _, _, _, _, st_next HS1.out, fun x => by rw [HA.out x, fl_old (by rw [hfk]; rfl)]⟩
        rw [show lineOf (some l) = .tuple #[.int .i64 l, .bool true] from rfl] at hm
        clear hfk HS1 HA HR
        go_wp2_with fail
        refine hm.mono ?_
        rintro e w' ⟨rfl, rfl⟩
        go_wp2
        go_roundw
        case rel => exact ⟨k + 1, by omega, by go_num, HN⟩
        case measure => simp [intOf]; omega
      | none =>
        rw [hfk] at hm
        have hu := unique_any { data := #[106, 111, 98] } HS1.out (by omega) (HZ.out k hlt) (by simp [Lit.wf, IntKind.min, IntKind.max, IntKind.signed, IntKind.bits]; omega) (by rw [HA.out (Z k)]; exact hfk)
        have HF : Hid (fl Z k (Z k) = none) := hfk
        rw [show lineOf none = .tuple #[.int .i64 0, .bool false] from rfl] at hm
        clear hfk HS1 HR
        go_wp2_with fail
        refine hm.mono ?_
        rintro e w' ⟨rfl, rfl⟩
        go_wp2_with fail
        refine hu.mono ?_
        rintro e W2 ⟨rfl, v', fv', rs', fm', hS', hcomb⟩
        have HN : Hid (Rec w w.heap.size (k + 1) Z W2) := ⟨_, _, _, _, _, hS', fun x => by rw [hcomb x, fl_new HF.out x, HA.out x]⟩
        clear hS' hcomb hm hu HF HA
        go_wp2
        go_roundw
        case rel => exact ⟨k + 1, by omega, by go_num, HN⟩
        case measure => simp [intOf]; omega
    · have e : L = k := by omega
      subst e
      have hch := check_some hS hL b o L C Z q hL hb HC.out hq HZ.out hall
      clear hS hall HR
      go_wp2_with fail
      refine hch.mono ?_
      rintro e w' ⟨rfl, hB'⟩
      go_wp2
      go_ret
      exact ⟨rfl, hB'⟩

set_option maxRecDepth 100000 in
theorem law_none (a : Option Addr) (C : Nat) (q : Int) (w : World) (hq : (Lit.int .i64 q).wf = true) :
    Calls Ybaf.prog 3 #[.slice a 0 C, .int .i64 q] w fun e w' => e = .returned (.bool true) ∧ Below w.heap.size w w' := by
  have hch := check_none (st_new w) (by omega) a C (fun _ => 0) q hq (fun _ => rfl)
  clear hq
  go_enter Ybaf.func3, Ybaf.ntmps3
  go_wp2
  go_loop [6] (fun i => i = .int .i64 0) (fun _ => 0)
  case atStart => rfl
  case round =>
    subst hrel
    go_wp2_with fail
    refine hch.mono ?_
    rintro e w' ⟨rfl, hB'⟩
    go_wp2
    go_ret
    exact ⟨rfl, hB'⟩
theorem law_many (a : Option Addr) (L C : Nat) (q : Int) (w : World) (h : 1024 < L) :
    Calls Ybaf.prog 3 #[.slice a L C, .int .i64 q] w fun e w' => e = .returned (.bool true) ∧ Below w.heap.size w w' := by
  go_enter Ybaf.func3, Ybaf.ntmps3
  go_wp2
  go_ret
  exact ⟨rfl, Below.refl _ _⟩
end Go.Proofs.YbulkkswFmt
