/-
  The walk of (*Reader).Unique (7), its other way: the id stands below one that has risen: it goes into the map, which is made if need be.
-/
import Derived.Test.YbulkkswFmtUnique
import Derived.RegionTactic
import Derived.ChangeAlike
namespace Go.Proofs.YbulkkswFmt
open Go.RowKit

/-- The map is made and laid into its field. -/
theorem st_made {w W1 : World} {B k : Nat} {ln : Int} {v : Value} {rs : List (Int × Int)} {fm : Int → Option Int} (h : St w B k ln v (.map none) rs fm W1) :
    St w B k ln v (.map (some W1.heap.size)) rs fm ((W1.setCell ⟨B, 8, none⟩ (.map (some W1.heap.size))).alloc (.map #[] 0)) := by
  obtain ⟨hrow, ho, hf, hs, hk, hB⟩ := h
  have hlt := hrow.lt
  have hn : ∀ q, fm q = none := by
    rcases hf with ⟨_, h⟩ | ⟨_, _, _, e, _⟩
    · exact h
    · cases e
  refine ⟨(((hrow.set 8 _).alloc _).congr (fun i hi => ?_)), ?_, .inr ⟨W1.heap.size, 0, .map [], rfl, hlt, Nat.zero_le _, ?_, fun q _ => ?_⟩, hs, hk, ?_⟩
  · match i, hi with
    | 0, _ => rfl
    | 1, _ => rfl
    | 2, _ => rfl
    | 3, _ => rfl
    | 4, _ => rfl
    | 5, _ => rfl
    | 6, _ => rfl
    | 7, _ => rfl
    | 8, _ => rfl
  · refine World.ownsRow.alloc ?_ _
    refine ho.kept (grown_setCell W1 ⟨B, 8, none⟩ _) ?_
    cases hv : v.ownBlock with
    | none => exact .inl rfl
    | some j =>
      have := (ho.lt j hv).1
      refine .inr (fun e => ?_)
      simp only [Option.some.injEq] at e
      omega
  · have := World.ownsMap_made (H := Unit) (W1.setCell ⟨B, 8, none⟩ (.map (some W1.heap.size))) Ybaf.prog 2 (plainElem Ybaf.prog 3)
    rw [World.size_setCell] at this
    exact this
  · rw [hn q]
    exact ⟨rfl, fun l hl => by cases hl⟩
  · exact (hB.setCell (p := ⟨B, 8, none⟩) (Nat.le_refl _) _).alloc (by rw [World.size_setCell]; omega) _

/-- The state behind a store into the map. -/
theorem st_put {w W1 w2 : World} {B k mb n : Nat} {ln id : Int} {v : Value} {rs : List (Int × Int)} {fm : Int → Option Int} {D : DataW Unit} (h : St w B k ln v (.map (some mb)) rs fm W1) (hB : B < mb) (hn : n ≤ k)
    (hD : W1.ownsMap (H := Unit) Ybaf.prog 2 (plainElem Ybaf.prog 3) mb n D)
    (hq : ∀ q, (Lit.int .i64 q).wf = true → Maps.has D (.int .i64 q) = (fm q).isSome ∧ ∀ l, fm q = some l → D.atKey (.int .i64 q) (.lit (.int .i64 0)) = .lit (.int .i64 l))
    (hm : w2.ownsMap (H := Unit) Ybaf.prog 2 (plainElem Ybaf.prog 3) mb (n + 1) (D.put (.int .i64 id) (.lit (.int .i64 ln)))) (hg : W1.drew.grownBy w2 (some mb)) :
    St w B (k + 1) ln v (.map (some mb)) rs (fun x => if x = id then some ln else fm x) w2 := by
  obtain ⟨hrow, ho, hf, hs, hk, hb⟩ := h
  have hlt := hrow.lt
  refine ⟨hrow.of_block (hg.block B hlt (by simp; omega)), ho.kept (w := W1.drew) hg ?_, fal_put hB (by omega) hD.isMap hq hm, hs, by omega, Below.grown (w := W1.drew) hb.drew hg (by show B ≤ W1.heap.size; omega) (fun j hj => by cases hj; omega)⟩
  cases hv : v.ownBlock with
  | none => exact .inl rfl
  | some j =>
    refine .inr (fun e => ?_)
    simp only [Option.some.injEq] at e
    subst e
    obtain ⟨es, clock, he, _⟩ := hD
    rcases ho.2 with ⟨rfl, _⟩ | ⟨g', cap', cur, rfl, _, hc, _⟩
    · simp [Value.ownBlock] at hv
    · simp only [Value.ownBlock, Option.some.injEq] at hv
      subst hv
      rw [he] at hc
      cases hc

set_option maxRecDepth 100000 in
set_option maxHeartbeats 1000000 in
/-- The map is there. -/
theorem uq_fall_some {w W : World} {B k mb : Nat} {ln : Int} {v : Value} {init : List (Int × Int)} {r : Int × Int} {fm : Int → Option Int} (nm : ByteArray) (h : St w B k ln v (.map (some mb)) (init ++ [r]) fm W) (hk : k ≤ 1024) {id : Int} (hid : (Lit.int .i64 id).wf = true) (hln : (Lit.int .i64 ln).wf = true) (hc : comb fm (init ++ [r]) id = none) (hx : ¬ r.1 < id) :
    Calls Ybaf.prog 7 #[.pointer (some ⟨B, 0, none⟩), .string nm, .int .i64 id] W fun e w' => e = .returned .nilIface ∧ St w B (k + 1) ln v (.map (some mb)) (init ++ [r]) (fun x => if x = id then some ln else fm x) w' := by
  have hfl := firstLine_any h hk hid
  rw [hc] at hfl
  obtain ⟨g, cap, rfl, hcell⟩ := rising_cells h (by simp)
  have hlk := h.2.2.2.2.1
  have hl1 : (init ++ [r]).length = init.length + 1 := by simp
  have HS : Hid (St w B k ln (.slice (some ⟨g, 0, none⟩) (init.length + 1) cap) (.map (some mb)) (init ++ [r]) fm W) := by rw [← hl1]; exact h
  have hd := (hcell init.length r (by simp)).1
  rw [hl1] at hlk ⊢
  have hkey : keyOf Ybaf.prog 2 (.int .i64 id) = some (.int .i64 id) := Maps.keyOf_int_mk Ybaf.underlying2 hid
  generalize hq : init.length = q at HS hlk hd hl1 ⊢
  generalize hxx : r.1 = x at hd hx
  clear h hc hid hcell hxx hl1 hq
  have hbl : g < W.heap.size := World.block_lt_of_cell? _ _ hd
  have z0 : (((q : Int) + 1) == 0) = false := by simp; omega
  have z1 : decide (x < id) = false := by simpa using hx
  have heq := fun w => run_eql_map_nil (P := Ybaf.prog) w 29 2 3 (some mb) Ybaf.underlying29
  simp only [Option.isNone_some] at heq
  go_enter Ybaf.func7, Ybaf.ntmps7
  go_wp2_with fail
  refine hfl.mono ?_
  rintro e W1 ⟨rfl, hb1⟩
  have HS1 : Hid (St w B k ln (.slice (some ⟨g, 0, none⟩) (q + 1) cap) (.map (some mb)) (init ++ [r]) fm W1) := st_kept HS.out hb1
  have hd1 : W1.cell? ⟨g, q * 2, none⟩ = some (.int .i64 x) := (hb1.cell (p := ⟨g, q * 2, none⟩) hbl).trans hd
  clear HS hb1 hfl hd hbl
  have c7 : W1.cell? ⟨B, 7, none⟩ = some (.slice (some ⟨g, 0, none⟩) (q + 1) cap) := HS1.out.1.cell (i := 7) (by omega)
  have c8 : W1.cell? ⟨B, 8, none⟩ = some (.map (some mb)) := HS1.out.1.cell (i := 8) (by omega)
  have c2 : W1.cell? ⟨B, 2, none⟩ = some (.int .i64 ln) := HS1.out.1.cell (i := 2) (by omega)
  obtain ⟨n, D, hBm, hn, hD, hqq⟩ : ∃ n D, B < mb ∧ n ≤ k ∧ W1.ownsMap (H := Unit) Ybaf.prog 2 (plainElem Ybaf.prog 3) mb n D ∧ Hid (∀ q, (Lit.int .i64 q).wf = true → Maps.has D (.int .i64 q) = (fm q).isSome ∧ ∀ l, fm q = some l → D.atKey (.int .i64 q) (.lit (.int .i64 0)) = .lit (.int .i64 l)) := by
    rcases HS1.out.2.2.1 with ⟨e, _⟩ | ⟨mb', n, D, e, hB, hn, hD, hq⟩
    · cases e
    · cases e
      exact ⟨n, D, hB, hn, hD, hq⟩
  have hDd : W1.drew.ownsMap (H := Unit) Ybaf.prog 2 (plainElem Ybaf.prog 3) mb n D := hD
  obtain ⟨w2, hrun, hm2, hg2⟩ := hDd.update law2 Ybaf.underlying29 (by unfold maxLen; omega) hkey (plainElem_int Ybaf.underlying3 hln)
  have HD : Hid (W1.ownsMap (H := Unit) Ybaf.prog 2 (plainElem Ybaf.prog 3) mb n D) := hD
  clear hD hDd
  rw [show lineOf none = .tuple #[.int .i64 0, .bool false] from rfl]
  go_wp2
  go_region
  all_goals
    go_wp2
    go_ret
    exact ⟨rfl, st_put HS1.out hBm hn HD.out hqq.out hm2 hg2⟩
set_option maxRecDepth 100000 in
set_option maxHeartbeats 1000000 in
/-- The map is made first. -/
theorem uq_fall_nil {w W : World} {B k : Nat} {ln : Int} {v : Value} {init : List (Int × Int)} {r : Int × Int} {fm : Int → Option Int} (nm : ByteArray) (h : St w B k ln v (.map none) (init ++ [r]) fm W) (hk : k ≤ 1024) {id : Int} (hid : (Lit.int .i64 id).wf = true) (hln : (Lit.int .i64 ln).wf = true) (hc : comb fm (init ++ [r]) id = none) (hx : ¬ r.1 < id) :
    Calls Ybaf.prog 7 #[.pointer (some ⟨B, 0, none⟩), .string nm, .int .i64 id] W fun e w' => e = .returned .nilIface ∧ ∃ mb, St w B (k + 1) ln v (.map (some mb)) (init ++ [r]) (fun x => if x = id then some ln else fm x) w' := by
  have hfl := firstLine_any h hk hid
  rw [hc] at hfl
  obtain ⟨g, cap, rfl, hcell⟩ := rising_cells h (by simp)
  have hlk := h.2.2.2.2.1
  have hl1 : (init ++ [r]).length = init.length + 1 := by simp
  have HS : Hid (St w B k ln (.slice (some ⟨g, 0, none⟩) (init.length + 1) cap) (.map none) (init ++ [r]) fm W) := by rw [← hl1]; exact h
  have hd := (hcell init.length r (by simp)).1
  rw [hl1] at hlk ⊢
  have hkey : keyOf Ybaf.prog 2 (.int .i64 id) = some (.int .i64 id) := Maps.keyOf_int_mk Ybaf.underlying2 hid
  generalize hq : init.length = q at HS hlk hd hl1 ⊢
  generalize hxx : r.1 = x at hd hx
  clear h hc hid hcell hxx hl1 hq
  have hbl : g < W.heap.size := World.block_lt_of_cell? _ _ hd
  have z0 : (((q : Int) + 1) == 0) = false := by simp; omega
  have z1 : decide (x < id) = false := by simpa using hx
  have heq := fun w => run_eql_map_nil (P := Ybaf.prog) w 29 2 3 none Ybaf.underlying29
  simp only [Option.isNone_none] at heq
  have hmm := @run_makeMap Ybaf.prog
  go_enter Ybaf.func7, Ybaf.ntmps7
  go_wp2_with fail
  refine hfl.mono ?_
  rintro e W1 ⟨rfl, hb1⟩
  have HS1 : Hid (St w B k ln (.slice (some ⟨g, 0, none⟩) (q + 1) cap) (.map none) (init ++ [r]) fm W1) := st_kept HS.out hb1
  have hd1 : W1.cell? ⟨g, q * 2, none⟩ = some (.int .i64 x) := (hb1.cell (p := ⟨g, q * 2, none⟩) hbl).trans hd
  clear HS hb1 hfl hd hbl
  have c7 : W1.cell? ⟨B, 7, none⟩ = some (.slice (some ⟨g, 0, none⟩) (q + 1) cap) := HS1.out.1.cell (i := 7) (by omega)
  have c8 : W1.cell? ⟨B, 8, none⟩ = some (.map none) := HS1.out.1.cell (i := 8) (by omega)
  have f8 : W1.frozen? ⟨B, 8, none⟩ = false := HS1.out.1.frozen 8
  have hBl : B < W1.heap.size := HS1.out.1.lt
  have HS2 : Hid (St w B k ln (.slice (some ⟨g, 0, none⟩) (q + 1) cap) (.map (some W1.heap.size)) (init ++ [r]) fm ((W1.setCell ⟨B, 8, none⟩ (.map (some W1.heap.size))).alloc (.map #[] 0))) := st_made HS1.out
  have c2 : W1.cell? ⟨B, 2, none⟩ = some (.int .i64 ln) := HS1.out.1.cell (i := 2) (by omega)
  clear HS1
  rw [show lineOf none = .tuple #[.int .i64 0, .bool false] from rfl]
  go_wp2
  generalize hW2 : World.alloc _ _ = W2
  have HS3 : Hid (St w B k ln (.slice (some ⟨g, 0, none⟩) (q + 1) cap) (.map (some W1.heap.size)) (init ++ [r]) fm W2) := by rw [← hW2]; exact HS2.out
  clear hW2 HS2 c7 c8 c2 f8 heq hmm
  generalize W1.heap.size = mb at *
  have c8 : W2.cell? ⟨B, 8, none⟩ = some (.map (some mb)) := HS3.out.1.cell (i := 8) (by omega)
  have c2 : W2.cell? ⟨B, 2, none⟩ = some (.int .i64 ln) := HS3.out.1.cell (i := 2) (by omega)
  obtain ⟨n, D, hBm, hn, hD, hqq⟩ : ∃ n D, B < mb ∧ n ≤ k ∧ W2.ownsMap (H := Unit) Ybaf.prog 2 (plainElem Ybaf.prog 3) mb n D ∧ Hid (∀ q, (Lit.int .i64 q).wf = true → Maps.has D (.int .i64 q) = (fm q).isSome ∧ ∀ l, fm q = some l → D.atKey (.int .i64 q) (.lit (.int .i64 0)) = .lit (.int .i64 l)) := by
    rcases HS3.out.2.2.1 with ⟨e, _⟩ | ⟨mb', n, D, e, hB, hn, hD, hq⟩
    · cases e
    · cases e
      exact ⟨n, D, hB, hn, hD, hq⟩
  have hDd : W2.drew.ownsMap (H := Unit) Ybaf.prog 2 (plainElem Ybaf.prog 3) mb n D := hD
  obtain ⟨w2, hrun, hm2, hg2⟩ := hDd.update law2 Ybaf.underlying29 (by unfold maxLen; omega) hkey (plainElem_int Ybaf.underlying3 hln)
  have HD : Hid (W2.ownsMap (H := Unit) Ybaf.prog 2 (plainElem Ybaf.prog 3) mb n D) := hD
  clear hD hDd
  go_region
  all_goals
    go_wp2
    go_ret
    exact ⟨rfl, mb, st_put HS3.out hBm hn HD.out hqq.out hm2 hg2⟩

/-- UNIQUE at an id that was not recorded. -/
theorem unique_any {w W : World} {B k : Nat} {ln : Int} {v fv : Value} {rs : List (Int × Int)} {fm : Int → Option Int} (nm : ByteArray) (h : St w B k ln v fv rs fm W) (hk : k ≤ 1024) {id : Int} (hid : (Lit.int .i64 id).wf = true) (hln : (Lit.int .i64 ln).wf = true) (hc : comb fm rs id = none) :
    Calls Ybaf.prog 7 #[.pointer (some ⟨B, 0, none⟩), .string nm, .int .i64 id] W fun e w' => e = .returned .nilIface ∧ ∃ v' fv' rs' fm', St w B (k + 1) ln v' fv' rs' fm' w' ∧ ∀ q, comb fm' rs' q = if q = id then some ln else comb fm rs q := by
  rcases List.eq_nil_or_concat rs with rfl | ⟨init, r, e⟩
  · refine (uq_empty nm h hk hid hc).mono fun e w' ⟨he, v', hs⟩ => ⟨he, v', fv, _, fm, hs, comb_rise hc⟩
  · obtain rfl : rs = init ++ [r] := by simpa using e
    by_cases hx : r.1 < id
    · refine (uq_above nm h hk hid hc hx).mono fun e w' ⟨he, v', hs⟩ => ⟨he, v', fv, _, fm, hs, comb_rise hc⟩
    · have hf := h.2.2.1
      rcases hf with ⟨rfl, _⟩ | ⟨mb, _, _, rfl, _⟩
      · exact (uq_fall_nil nm h hk hid hln hc hx).mono fun e w' ⟨he, mb, hs⟩ => ⟨he, _, _, _, _, hs, comb_fall⟩
      · exact (uq_fall_some nm h hk hid hln hc hx).mono fun e w' ⟨he, hs⟩ => ⟨he, _, _, _, _, hs, comb_fall⟩
end Go.Proofs.YbulkkswFmt
