/-
  The walks of withRoom (19), push (9), pop (20) and popIndent (10) on openStack[string].
-/
import Derived.Test.YbulkkmyRuns
import Derived.Test.YbulkkmyStack
import Derived.Laws.MakeOwn
import Derived.WalkLawsBesides
import Derived.WalkSpells
namespace Go.Proofs.Ybulkkmy
open Go.RowKit

theorem info49 : ∃ i, Yba.prog.info? 49 = some i ∧ i.zero = some (.agg #[.string { data := #[] }, .int .i64 0]) ∧ i.size = 2 ∧ i.bytes = 24 := by
  have h : (Yba.prog.info? 49).map (fun i => (i.zero, i.size, i.bytes)) = some (some (.agg #[.string { data := #[] }, .int .i64 0]), 2, 24) := by kernel_rfl
  obtain ⟨i, hi, hz⟩ := Option.map_eq_some_iff.1 h
  simp only [Prod.mk.injEq] at hz
  exact ⟨i, hi, hz⟩

theorem run_make49 (l c : Int) (h0 : 0 ≤ l) (hlc : l ≤ c) (hc : c ≤ 100000) (w : World) :
    (Instr.makeSlice 36 (.int .i64 l) (.int .i64 c)).run Yba.prog w = .ok (.slice (some ⟨w.heap.size, 0, none⟩) l.toNat c.toNat) (w.alloc (.cells (madeCells #[.string { data := #[] }, .int .i64 0] (c.toNat * 2)) 49)) := by
  obtain ⟨i, hi, hz, hs, hb⟩ := info49
  have h := run_make (P := Yba.prog) w 36 49 i _ Yba.underlying36 hi hz .i64 .i64 l c h0 hlc (by rw [hb]; omega) (by omega)
  rw [hs] at h
  exact h

theorem run_copy49 (w : World) (ty : TypeId) (g dLen dCap : Nat) (a : Addr) (sLen sCap : Nat) (cur : Array Value) (cs : List Value)
    (hg : w.heap[g]? = some (.cells cur 49 (0, 0))) (hn : cs.length = Nat.min sLen dLen * 2)
    (hsrc : ∀ j v, cs[j]? = some v → w.cell? (a.add j) = some v) (hfit : 0 + cs.length ≤ cur.size) (h1 : ∀ v ∈ cs, v.oneCell' = true) :
    (Builtin.copy_ #[36, 36] ty #[.slice (some ⟨g, 0, none⟩) dLen dCap, .slice (some a) sLen sCap]).run Yba.prog w =
      .ok (goInt (Nat.min sLen dLen)) (w.setRow g (cur.toList.take 0 ++ cs ++ cur.toList.drop (0 + cs.length)).toArray) := by
  obtain ⟨i, hi, hz, hs, hb⟩ := info49
  have hl := run_loadCells_list (P := Yba.prog) w a cs hsrc
  have hst := run_storeCells_at Yba.prog g 0 49 cs 0 cur w hg (by simpa using hfit) h1
  simp only [Nat.zero_add] at hst
  simp only [Nat.zero_add]
  simp [Builtin.copy_, run_underlying Yba.underlying36, Builtin.lenOf, Builtin.firstCells, sizeOf, typeInfo, hi, hs, ← hn, hl, hst]

theorem withRoom_room (a : Option Addr) (R C : Nat) (W : World) (h : R + 1 ≤ C) (hC : C ≤ 100000) :
    Calls Yba.prog 19 #[.slice a R C, .int .i64 1] W fun e w' => e = .returned (.slice a R C) ∧ w' = W := by
  go_enter Yba.func19, Yba.ntmps19
  go_wp2
  go_ret
  exact ⟨rfl, rfl⟩
/-- What withRoom(s, 1) hands back: the same runs, in a row with room for one more. -/
def Room (B : Nat) (rs : List (ByteArray × Nat)) (W : World) (e : Ending) (w' : World) : Prop :=
  ∃ g C, e = .returned (.slice (some ⟨g, 0, none⟩) rs.length C) ∧ Own g C rs w' ∧ rs.length + 1 ≤ C ∧ C ≤ 4096 ∧ B < g ∧ Below (B + 1) W w'

theorem withRoom_nil (W : World) :
    Calls Yba.prog 19 #[.slice none 0 0, .int .i64 1] W fun e w' => e = .returned (.slice (some ⟨W.heap.size, 0, none⟩) 0 1) ∧ w' = W.alloc (.cells (madeCells #[.string { data := #[] }, .int .i64 0] 2) 49) := by
  have hmk := run_make49 0 1 (by omega) (by omega) (by omega)
  have hcp := run_copy_nil Yba.prog (W.alloc (.cells (madeCells #[.string { data := #[] }, .int .i64 0] 2) 49)) 36 36 3 49 ⟨W.heap.size, 0, none⟩ 0 1 Yba.underlying36 (by kernel_rfl)
  go_enter Yba.func19, Yba.ntmps19
  go_wp2
  go_ret
  exact ⟨rfl, rfl⟩

theorem withRoom_grow (rb R : Nat) (rs : List (ByteArray × Nat)) (W : World) (h1 : 1 ≤ R) (h2 : R ≤ 2000) (hR : rs.length = R) (ho : Own rb R rs W) :
    Calls Yba.prog 19 #[.slice (some ⟨rb, 0, none⟩) R R, .int .i64 1] W fun e w' => e = .returned (.slice (some ⟨W.heap.size, 0, none⟩) R (2 * R)) ∧ Own W.heap.size (2 * R) rs w' ∧ Below W.heap.size W w' := by
  have hmk := run_make49 R (2 * R) (by omega) (by omega) (by omega)
  have hfl := flat_length rs
  obtain ⟨W2, hcp, ho2, hb2⟩ : ∃ W2, (Builtin.copy_ #[36, 36] 3 #[.slice (some ⟨W.heap.size, 0, none⟩) R (2 * R), .slice (some ⟨rb, 0, none⟩) R R]).run Yba.prog (W.alloc (.cells (madeCells #[.string { data := #[] }, .int .i64 0] (2 * R * 2)) 49)) = .ok (goInt R) W2 ∧
      Own W.heap.size (2 * R) rs W2 ∧ Below W.heap.size W W2 := by
    have hnew : (W.alloc (.cells (madeCells #[.string { data := #[] }, .int .i64 0] (2 * R * 2)) 49)).heap[W.heap.size]? = some (.cells (madeCells #[.string { data := #[] }, .int .i64 0] (2 * R * 2)) 49 (0, 0)) := Deep.blk_alloc_new _ _
    have hcs := run_copy49 (W.alloc (.cells (madeCells #[.string { data := #[] }, .int .i64 0] (2 * R * 2)) 49)) 3 W.heap.size R (2 * R) ⟨rb, 0, none⟩ R R _ (flat rs) hnew (by rw [hfl, hR]; simp; omega)
      (fun j v hj => by
        have hjl : j < (flat rs).length := (List.getElem?_eq_some_iff.1 hj).1
        obtain ⟨rest, hb, _⟩ := own_alloc ho (.cells (madeCells #[.string { data := #[] }, .int .i64 0] (2 * R * 2)) 49)
        rw [Go.WideShapes.add_plain]
        simp only [World.cell?, hb]
        simpa [List.getElem?_append_left hjl] using hj)
      (by rw [size_madeCells]; omega) (flat_one rs)
    rw [show Nat.min R R = R from Nat.min_self R] at hcs
    refine ⟨_, hcs, own_copied hnew (by rw [size_madeCells]; omega) (by omega), below_setRow ((Below.refl _ _).alloc (Nat.le_refl _) _) (Nat.le_refl _) _⟩
  go_enter Yba.func19, Yba.ntmps19
  go_wp2
  go_ret
  exact ⟨rfl, ho2, hb2⟩

/-- append(s, openRun{x, 1}) where s has room. -/
theorem app_run (W1 : World) (B g R C : Nat) (rs : List (ByteArray × Nat)) (x : ByteArray) (ho : Own g C rs W1) (hR : rs.length = R) (h : R + 1 ≤ C) (hB : B < g) :
    ∃ W2, (Builtin.append_ #[36, 36] 36 #[.slice (some ⟨g, 0, none⟩) R C, .slice (some ⟨W1.heap.size, 0, none⟩) 1 1]).run Yba.prog (W1.alloc (.cells #[.string x, .int .i64 1] 49)) =
      .ok (.slice (some ⟨g, 0, none⟩) (R + 1) C) W2 ∧ Own g C (rs ++ [(x, 1)]) W2 ∧ Below (B + 1) W1 W2 := by
  obtain ⟨i, hi, hz, hs, hb⟩ := info49
  obtain ⟨rest, hbk, hlen⟩ := own_alloc ho (.cells #[.string x, .int .i64 1] 49)
  have hlt := own_lt ho
  have hfl := flat_length rs
  have hrun := run_append_room (P := Yba.prog) (W1.alloc (.cells #[.string x, .int .i64 1] 49)) 36 36 49 i Yba.underlying36 hi g R C _ hbk ⟨W1.heap.size, 0, none⟩ 1 1 [.string x, .int .i64 1] (by rw [hs]; rfl)
    (fun j u hj => by
      rw [Go.WideShapes.add_plain, Nat.zero_add, World.cell?_alloc_new]
      match j, hj with
      | 0, hj => exact hj
      | 1, hj => exact hj) (by intro u hu; simp at hu; rcases hu with rfl | rfl <;> rfl) (by omega) (by rw [hs]; simp only [List.size_toArray, List.length_append, List.length_cons, List.length_nil] at hlen ⊢; omega)
  rw [hs] at hrun
  refine ⟨_, hrun, ?_, below_setRow ((Below.refl _ _).alloc (by omega) _) (by omega) _⟩
  subst hR
  exact own_push rest hbk hlen (by omega) x

/-- The built-in append by its run equation, for the walk. -/
theorem wpList_append_run {P : Program} {w w2 : World} {ops : Array Oper} {rest : List Oper} {o : Oper} {a : Act} {Q : Exit → Act → World → Prop} (hgd : o.guard = none) (d s : Operand) (t : TypeId)
    (ho : o.op = .call { callee := .builtin .append, args := #[d, s], argTypes := #[t, t] }) (v : Value) (hrun : (Builtin.append_ #[t, t] o.type #[a.eval d, a.eval s]).run P w = .ok v w2)
    (h : wpList P ops Q rest (a.put o.dst v) w2) : wpList P ops Q (o :: rest) a w := by
  refine wpList_plain hgd fun K hK => ?_
  unfold Oper.wp
  simp [execOp, ho, resolve, invoke, builtin, hrun, Result.andThen]
  exact hK _ _ h

theorem rowIs_below {W W1 : World} {B : Nat} {t : TypeId} {n : Nat} {f : Nat → Value} (k : W.rowIs B t n f) (h : Below (B + 1) W W1) : W1.rowIs B t n f := k.of_block (h.block B (by omega))

theorem stk_pushed {w W W1 W2 : World} {B g C : Nat} {h : Value} {rs : List (ByteArray × Nat)} (hr : W.rowIs B 46 15 (sc h)) (hb : Below B w W) (h1 : Below (B + 1) W W1) (h2 : Below (B + 1) W1 W2) (ho : Own g C rs W2) (hg : B < g) (hC1 : 1 ≤ C) (hC : C ≤ 4096) :
    Stk w B rs (W2.setCell ⟨B, 7, none⟩ (.slice (some ⟨g, 0, none⟩) rs.length C)) := by
  refine .inr ⟨g, C, sc_set (rowIs_below (rowIs_below hr h1) h2) _, own_setOther ho (a := ⟨B, 7, none⟩) (by show g ≠ B; omega) _, hg, hC1, hC, ?_⟩
  exact ((hb.trans (h1.mono (by omega))).trans (h2.mono (by omega))).setCell (p := ⟨B, 7, none⟩) (Nat.le_refl _) _

theorem push_empty (w W : World) (B : Nat) (a : Option Addr) (C : Nat) (x : ByteArray) (hr : W.rowIs B 46 15 (sc (.slice a 0 C))) (hb : Below B w W) (hroom : Calls Yba.prog 19 #[.slice a 0 C, .int .i64 1] W (Room B [] W)) :
    Calls Yba.prog 9 #[.pointer (some ⟨B, 7, none⟩), .string x] W fun e w' => e = .returned (.tuple #[]) ∧ Stk w B [(x, 1)] w' := by
  have c : W.cell? ⟨B, 7, none⟩ = some (.slice a 0 C) := hr.cell (i := 7) (by omega)
  go_enter Yba.func9, Yba.ntmps9
  go_wp2_with fail
  refine hroom.mono ?_
  rintro e W1 ⟨g, C1, rfl, ho, hC1, hC2, hg, hb1⟩
  obtain ⟨W2, happ, ho2, hb2⟩ := app_run W1 B g 0 C1 [] x ho rfl hC1 hg
  have hr2 := rowIs_below (rowIs_below hr hb1) hb2
  have c2 : W2.cell? ⟨B, 7, none⟩ = some (.slice a 0 C) := hr2.cell (i := 7) (by omega)
  have f2 := hr2.frozen 7
  go_wp2_with (at_builtin; refine wpList_append_run rfl _ _ 36 rfl _ happ ?_)
  go_end0
  exact ⟨rfl, stk_pushed hr hb hb1 hb2 ho2 hg (by omega) hC2⟩

theorem push_diff (w W : World) (B rb q C : Nat) (init : List (ByteArray × Nat)) (s : ByteArray) (n : Nat) (x : ByteArray) (hq : init.length = q) (hq1 : q ≤ 2000) (hr : W.rowIs B 46 15 (sc (.slice (some ⟨rb, 0, none⟩) (q + 1) C)))
    (ho0 : Own rb C (init ++ [(s, n)]) W) (hne : (s.toList == x.toList) = false) (hb : Below B w W) (hroom : Calls Yba.prog 19 #[.slice (some ⟨rb, 0, none⟩) (q + 1) C, .int .i64 1] W (Room B (init ++ [(s, n)]) W)) :
    Calls Yba.prog 9 #[.pointer (some ⟨B, 7, none⟩), .string x] W fun e w' => e = .returned (.tuple #[]) ∧ Stk w B (init ++ [(s, n)] ++ [(x, 1)]) w' := by
  have c : W.cell? ⟨B, 7, none⟩ = some (.slice (some ⟨rb, 0, none⟩) (q + 1) C) := hr.cell (i := 7) (by omega)
  have d0 : W.cell? ⟨rb, q * 2, none⟩ = some (.string s) := own_cell0 ho0 (i := q) (r := (s, n)) (by rw [← hq]; simp)
  have hlen : (init ++ [(s, n)]).length = q + 1 := by simp [hq]
  go_enter Yba.func9, Yba.ntmps9
  go_wp2_with fail
  refine hroom.mono ?_
  rintro e W1 ⟨g, C1, rfl, ho, hC1, hC2, hg, hb1⟩
  rw [hlen] at hC1 ⊢
  obtain ⟨W2, happ, ho2, hb2⟩ := app_run W1 B g (q + 1) C1 _ x ho hlen hC1 hg
  have hr2 := rowIs_below (rowIs_below hr hb1) hb2
  have c2 : W2.cell? ⟨B, 7, none⟩ = some (.slice (some ⟨rb, 0, none⟩) (q + 1) C) := hr2.cell (i := 7) (by omega)
  have f2 := hr2.frozen 7
  have hfin := stk_pushed hr hb hb1 hb2 ho2 hg (by omega) hC2
  have hlen2 : (init ++ [(s, n)] ++ [(x, 1)]).length = q + 1 + 1 := by simp [hq]
  rw [hlen2] at hfin
  clear hlen hlen2 hq
  go_wp2_with (at_builtin; refine wpList_append_run rfl _ _ 36 rfl _ happ ?_)
  go_end0
  exact ⟨rfl, hfin⟩

theorem push_same (B rb q C : Nat) (s : ByteArray) (n : Int) (W : World) (c : W.cell? ⟨B, 7, none⟩ = some (.slice (some ⟨rb, 0, none⟩) (q + 1) C)) (hq : q ≤ 5000)
    (d0 : W.cell? ⟨rb, q * 2, none⟩ = some (.string s)) (d1 : W.cell? ⟨rb, q * 2 + 1, none⟩ = some (.int .i64 n)) (hn : 0 ≤ n) (hn1 : n ≤ 5000) (f : W.frozen? ⟨rb, q * 2 + 1, none⟩ = false) :
    Calls Yba.prog 9 #[.pointer (some ⟨B, 7, none⟩), .string s] W fun e w' => e = .returned (.tuple #[]) ∧ w' = W.setCell ⟨rb, q * 2 + 1, none⟩ (.int .i64 (n + 1)) := by
  go_enter Yba.func9, Yba.ntmps9
  go_wp2
  refine bodyPost_ret (results_none rfl _ _ _) rfl ?_
  exact ⟨rfl, rfl⟩
theorem pop_more (B rb q C : Nat) (n : Int) (W : World) (c : W.cell? ⟨B, 7, none⟩ = some (.slice (some ⟨rb, 0, none⟩) (q + 1) C)) (hq : q ≤ 5000)
    (d1 : W.cell? ⟨rb, q * 2 + 1, none⟩ = some (.int .i64 n)) (hn : 2 ≤ n) (hn1 : n ≤ 5000) (f : W.frozen? ⟨rb, q * 2 + 1, none⟩ = false) (_hne : ¬ rb = B) (_hne' : ¬ B = rb) :
    Calls Yba.prog 20 #[.pointer (some ⟨B, 7, none⟩)] W fun e w' => e = .returned (.tuple #[]) ∧ w' = W.setCell ⟨rb, q * 2 + 1, none⟩ (.int .i64 (n - 1)) := by
  go_enter Yba.func20, Yba.ntmps20
  go_wp2
  go_end0
  exact ⟨rfl, rfl⟩
theorem pop_last (B rb q C : Nat) (W : World) (c : W.cell? ⟨B, 7, none⟩ = some (.slice (some ⟨rb, 0, none⟩) (q + 1) C)) (fc : W.frozen? ⟨B, 7, none⟩ = false) (hq : q ≤ 5000) (hC : q + 1 ≤ C) (_hC1 : C ≤ 5000)
    (d1 : W.cell? ⟨rb, q * 2 + 1, none⟩ = some (.int .i64 1)) (f : W.frozen? ⟨rb, q * 2 + 1, none⟩ = false) (_hne : ¬ rb = B) (_hne' : ¬ B = rb) :
    Calls Yba.prog 20 #[.pointer (some ⟨B, 7, none⟩)] W fun e w' => e = .returned (.tuple #[]) ∧ w' = (W.setCell ⟨rb, q * 2 + 1, none⟩ (.int .i64 0)).setCell ⟨B, 7, none⟩ (.slice (some ⟨rb, 0, none⟩) q C) := by
  go_enter Yba.func20, Yba.ntmps20
  go_wp2
  go_end0
  exact ⟨rfl, rfl⟩

theorem snoc_or_nil {α : Type} (l : List α) : l = [] ∨ ∃ init x, l = init ++ [x] := by
  rcases List.eq_nil_or_concat l with h | ⟨init, x, h⟩
  · exact .inl h
  · exact .inr ⟨init, x, by simpa using h⟩

theorem bytes_eq {s x : ByteArray} (h : (s.toList == x.toList) = true) : s = x := by
  rw [beq_iff_eq, ByteArray.toList_eq, ByteArray.toList_eq] at h
  exact ByteArray.ext (Array.ext' h)

/-- PUSH. -/
theorem push_any (w W : World) (B : Nat) (l : List ByteArray) (x : ByteArray) (h : Holds w B l W) (hl : l.length ≤ 1024) :
    Calls Yba.prog 9 #[.pointer (some ⟨B, 7, none⟩), .string x] W fun e w' => e = .returned (.tuple #[]) ∧ Holds w B (l ++ [x]) w' := by
  obtain ⟨rs, rfl, hg, hs⟩ := h
  rcases snoc_or_nil rs with rfl | ⟨init, ⟨s, n⟩, rfl⟩
  · have fin : ∀ (e : Ending) w', (e = .returned (.tuple #[]) ∧ Stk w B [(x, 1)] w') → e = .returned (.tuple #[]) ∧ Holds w B (expand [] ++ [x]) w' := fun e w' h =>
      ⟨h.1, [(x, 1)], by simp [expand], fun r hr => by simp at hr; subst hr; exact Nat.le_refl _, h.2⟩
    rcases hs with ⟨_, hr, hb⟩ | ⟨rb, C, hr, ho, hB, hC1, hC, hb⟩
    · refine (push_empty w W B none 0 x hr hb ((withRoom_nil W).mono ?_)).mono fin
      rintro e w' ⟨rfl, rfl⟩
      have hlt : B < W.heap.size := hr.lt
      refine ⟨W.heap.size, 1, rfl, ⟨(madeCells #[.string { data := #[] }, .int .i64 0] 2).toList, ?_, ?_⟩, Nat.le_refl _, by omega, hlt, (Below.refl _ _).alloc (by omega) _⟩
      · rw [Deep.blk_alloc_new]; simp [flat_nil]
      · simp [flat_nil, size_madeCells]
    · refine (push_empty w W B (some ⟨rb, 0, none⟩) C x hr hb ((withRoom_room _ 0 C W (by omega) (by omega)).mono ?_)).mono fin
      rintro e w' ⟨rfl, rfl⟩
      exact ⟨rb, C, rfl, ho, hC1, hC, hB, Below.refl _ _⟩
  · have hlen := expand_length_ge _ hg
    have hcnt := count_le (init ++ [(s, n)]) (s, n) (by simp)
    simp only [List.length_append, List.length_singleton] at hlen
    have hn1 : n ≤ 1024 := Nat.le_trans hcnt hl
    rcases hs with ⟨h, _⟩ | ⟨rb, C, hr, ho, hB, hC1, hC, hb⟩
    · simp at h
    rw [show (init ++ [(s, n)]).length = init.length + 1 by simp] at hr
    by_cases heq : (s.toList == x.toList) = true
    · obtain rfl := bytes_eq heq
      refine (push_same B rb init.length C s n W (hr.cell (i := 7) (by omega)) (by omega) (own_cell0 ho (i := init.length) (r := (s, n)) (by simp)) (own_cell1 ho (i := init.length) (r := (s, n)) (by simp)) (by omega) (by omega) (own_frozen ho _)).mono ?_
      rintro e w' ⟨rfl, rfl⟩
      refine ⟨rfl, init ++ [(s, n + 1)], ?_, good_snoc (good_init hg) (by show 1 ≤ n + 1; omega), .inr ⟨rb, C, ?_, own_set ho (n + 1), hB, hC1, hC, hb.setCell (p := ⟨rb, init.length * 2 + 1, none⟩) (by show B ≤ rb; omega) _⟩⟩
      · rw [expand_append, expand_append, expand_one, expand_one, List.replicate_succ', List.append_assoc]
      · rw [show (init ++ [(s, n + 1)]).length = init.length + 1 by simp]
        exact hr.setOther (a := ⟨rb, init.length * 2 + 1, none⟩) (by show B ≠ rb; omega) _
    · have hne : (s.toList == x.toList) = false := by simpa using heq
      have fin : ∀ (e : Ending) w', (e = .returned (.tuple #[]) ∧ Stk w B (init ++ [(s, n)] ++ [(x, 1)]) w') → e = .returned (.tuple #[]) ∧ Holds w B (expand (init ++ [(s, n)]) ++ [x]) w' := fun e w' h =>
        ⟨h.1, init ++ [(s, n)] ++ [(x, 1)], by rw [expand_append _ [(x, 1)], expand_one]; rfl, good_snoc hg (Nat.le_refl _), h.2⟩
      by_cases hroom : init.length + 1 + 1 ≤ C
      · refine (push_diff w W B rb init.length C init s n x rfl (by omega) hr ho hne hb ((withRoom_room _ (init.length + 1) C W hroom (by omega)).mono ?_)).mono fin
        rintro e w' ⟨rfl, rfl⟩
        exact ⟨rb, C, by rw [show (init ++ [(s, n)]).length = init.length + 1 by simp], ho, by simpa using hroom, hC, hB, Below.refl _ _⟩
      · have hCR : C = init.length + 1 := by have := own_len ho; simp at this; omega
        subst hCR
        have hlt : B < W.heap.size := hr.lt
        refine (push_diff w W B rb init.length _ init s n x rfl (by omega) hr ho hne hb ((withRoom_grow rb (init.length + 1) (init ++ [(s, n)]) W (by omega) (by omega) (by simp) ho).mono ?_)).mono fin
        rintro e w' ⟨rfl, ho2, hb2⟩
        exact ⟨W.heap.size, 2 * (init.length + 1), by rw [show (init ++ [(s, n)]).length = init.length + 1 by simp], ho2, by simp; omega, by omega, hlt, hb2.mono (by omega)⟩

/-- POP. -/
theorem pop_any (w W : World) (B : Nat) (l : List ByteArray) (x : ByteArray) (h : Holds w B (l ++ [x]) W) (hl : l.length ≤ 1024) :
    Calls Yba.prog 20 #[.pointer (some ⟨B, 7, none⟩)] W fun e w' => e = .returned (.tuple #[]) ∧ Holds w B l w' := by
  obtain ⟨rs, he, hg, hs⟩ := h
  rcases snoc_or_nil rs with rfl | ⟨init, ⟨s, n⟩, rfl⟩
  · simp [expand] at he
  have hlen := expand_length_ge _ hg
  have hcnt := count_le (init ++ [(s, n)]) (s, n) (by simp)
  have hn : 1 ≤ n := hg (s, n) (by simp)
  rw [he] at hlen hcnt
  simp only [List.length_append, List.length_singleton] at hlen hcnt
  rcases hs with ⟨h, _⟩ | ⟨rb, C, hr, ho, hB, hC1, hC, hb⟩
  · simp at h
  rw [show (init ++ [(s, n)]).length = init.length + 1 by simp] at hr
  have hCl := own_len ho
  simp only [List.length_append, List.length_singleton] at hCl
  have d1 : W.cell? ⟨rb, init.length * 2 + 1, none⟩ = some (.int .i64 n) := own_cell1 ho (i := init.length) (r := (s, n)) (by simp)
  rw [expand_append, expand_one] at he
  by_cases e1 : n = 1
  · subst e1
    have hel : expand init = l := by
      have := congrArg List.dropLast he
      simpa using this
    refine (pop_last B rb init.length C W (hr.cell (i := 7) (by omega)) (hr.frozen 7) (by omega) hCl (by omega) d1 (own_frozen ho _) (by omega) (by omega)).mono ?_
    rintro e w' ⟨rfl, rfl⟩
    refine ⟨rfl, init, hel, good_init hg, .inr ⟨rb, C, ?_, own_setOther (own_drop (own_set ho 0)) (a := ⟨B, 7, none⟩) (by show rb ≠ B; omega) _, hB, hC1, hC, ?_⟩⟩
    · exact sc_set (hr.setOther (a := ⟨rb, init.length * 2 + 1, none⟩) (by show B ≠ rb; omega) _) _
    · exact (hb.setCell (p := ⟨rb, init.length * 2 + 1, none⟩) (by show B ≤ rb; omega) _).setCell (p := ⟨B, 7, none⟩) (Nat.le_refl _) _
  · obtain ⟨m, rfl⟩ : ∃ m, n = m + 1 := ⟨n - 1, by omega⟩
    have hel : expand (init ++ [(s, m)]) = l := by
      rw [expand_append, expand_one]
      rw [List.replicate_succ', ← List.append_assoc] at he
      have := congrArg List.dropLast he
      simpa using this
    refine (pop_more B rb init.length C _ W (hr.cell (i := 7) (by omega)) (by omega) d1 (by omega) (by omega) (own_frozen ho _) (by omega) (by omega)).mono ?_
    rintro e w' ⟨rfl, rfl⟩
    rw [show ((m + 1 : Nat) : Int) - 1 = (m : Int) by omega]
    refine ⟨rfl, init ++ [(s, m)], hel, good_snoc (good_init hg) (by show 1 ≤ m; omega), .inr ⟨rb, C, ?_, own_set ho m, hB, hC1, hC, hb.setCell (p := ⟨rb, init.length * 2 + 1, none⟩) (by show B ≤ rb; omega) _⟩⟩
    rw [show (init ++ [(s, m)]).length = init.length + 1 by simp]
    exact hr.setOther (a := ⟨rb, init.length * 2 + 1, none⟩) (by show B ≠ rb; omega) _

/-- popIndent on the scanner that does not look ahead. -/
theorem popIndent_any (w W : World) (B : Nat) (l : List ByteArray) (x s : ByteArray) (h : Holds w B (l ++ [x]) W) (hl : l.length ≤ 1024) :
    Calls Yba.prog 10 #[.pointer (some ⟨B, 0, none⟩), .string s] W fun e w' => e = .returned (.tuple #[]) ∧ Holds w B l w' := by
  have hpop := pop_any w W B l x h hl
  have c : W.cell? ⟨B, 14, none⟩ = some (.bool false) := by
    obtain ⟨rs, _, _, hs⟩ := h
    rcases hs with ⟨_, hr, _⟩ | ⟨rb, C, hr, _⟩
    · exact hr.cell (i := 14) (by omega)
    · exact hr.cell (i := 14) (by omega)
  go_enter Yba.func10, Yba.ntmps10
  go_wp2_with fail
  refine hpop.mono ?_
  rintro e w' ⟨rfl, hk⟩
  go_wp2
  refine bodyPost_ret (results_none rfl _ _ _) rfl ?_
  exact ⟨rfl, hk⟩
end Go.Proofs.Ybulkkmy
