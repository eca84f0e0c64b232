/-
  The walk of (*Reader).Unique (7) at an id that was not recorded: it is recorded, and nil is handed back.
-/
import Derived.Test.YbulkkswFmtFirst
import Derived.Deep.AppendLies
import Derived.StillTactics
import Derived.OwnWalk
import Derived.Laws.Pointers
import Derived.Deep.RegionLaw
import Derived.BigRegion
import Derived.Carry
namespace Go.Proofs.YbulkkswFmt
open Go.RowKit
theorem info59 : (Ybaf.prog.info? 59).map (fun i => (i.zero, i.size, i.bytes)) = some (some (.agg #[.int .i64 0, .int .i64 0]), 2, 16) := by kernel_rfl

theorem keepA {B : Nat} {x : World} {o : Obj} {v : Value} {ln : Int} (hB : B < x.heap.size) (h7 : x.cell? ⟨B, 7, none⟩ = some v) (h2 : x.cell? ⟨B, 2, none⟩ = some (.int .i64 ln)) (f7 : x.frozen? ⟨B, 7, none⟩ = false) :
    (x.alloc o).drew.cell? ⟨B, 7, none⟩ = some v ∧ (x.alloc o).drew.cell? ⟨B, 2, none⟩ = some (.int .i64 ln) ∧ (x.alloc o).drew.frozen? ⟨B, 7, none⟩ = false := by
  refine ⟨?_, ?_, ?_⟩
  · rw [World.cell?_drew, World.cell?_alloc_lt _ _ _ hB]; exact h7
  · rw [World.cell?_drew, World.cell?_alloc_lt _ _ _ hB]; exact h2
  · rw [World.frozen?_drew, World.frozen?_alloc_old _ _ _ (Nat.ne_of_lt hB)]; exact f7

theorem grown_setCell (w : World) (a : Addr) (v : Value) : w.grownBy (w.setCell a v) (some a.block) :=
  ⟨rfl, rfl, rfl, by simp, fun k _ hne => Deep.blk_setCell_other _ _ _ _ (fun e => hne (by rw [e]))⟩
theorem fal_mono {B k : Nat} {fv : Value} {fm : Int → Option Int} {W : World} (h : Fal B k fv fm W) {k' : Nat} (hk : k ≤ k') : Fal B k' fv fm W := by
  rcases h with h | ⟨mb, n, D, rfl, hB, hn, hm, hq⟩
  · exact .inl h
  · exact .inr ⟨mb, n, D, rfl, hB, by omega, hm, hq⟩
theorem fal_lt {B k : Nat} {fv : Value} {fm : Int → Option Int} {W : World} (h : Fal B k fv fm W) {mb : Nat} (e : fv = .map (some mb)) : B < mb ∧ ∃ es clock, W.heap[mb]? = some (.map es clock) := by
  rcases h with ⟨rfl, _⟩ | ⟨mb', n, D, rfl, hB, _, hm, _⟩
  · cases e
  · cases e
    obtain ⟨es, clock, hb, _⟩ := hm
    exact ⟨hB, es, clock, hb⟩

/-- The state behind an append to what has risen. -/
theorem st_append {w W1 w1 : World} {B k : Nat} {ln id : Int} {v fv : Value} {rs : List (Int × Int)} {fm : Int → Option Int} (h : St w B k ln v fv rs fm W1) (hr : ∀ x ∈ rs, x.1 < id) {g cap : Nat} {o : Obj}
    (hown1 : w1.ownsRow (B + 1) 59 2 (.slice (some ⟨g, 0, none⟩) (rs.length + 1) cap) (rs.length + 1) (flat2 rs ++ [.int .i64 id, .int .i64 ln])) (hgrow : (W1.alloc o).drew.grownBy w1 v.ownBlock) :
    St w B (k + 1) ln (.slice (some ⟨g, 0, none⟩) (rs.length + 1) cap) fv (rs ++ [(id, ln)]) fm (w1.setCell ⟨B, 7, none⟩ (.slice (some ⟨g, 0, none⟩) (rs.length + 1) cap)) := by
  obtain ⟨hrow, ho, hf, hs, hk, hB⟩ := h
  have hlt := hrow.lt
  have hneB : some B ≠ v.ownBlock := fun e => by have := (ho.lt B e.symm).1; omega
  have hgB : B + 1 ≤ g := (hown1.lt g rfl).1
  have hrow1 : w1.rowIs B 31 9 (rdr ln v fv) := (hrow.alloc o).of_block (hgrow.block B (by simp; omega) hneB)
  refine ⟨(hrow1.set 7 _).congr (fun i hi => ?_), ?_, ?_, rise_snoc hs hr, by simp; omega, ?_⟩
  · match i, hi with
    | 0, _ => rfl
    | 1, _ => rfl
    | 2, _ => rfl
    | 3, _ => rfl
    | 4, _ => rfl
    | 5, _ => rfl
    | 6, _ => rfl
    | 7, _ => rfl
    | 8, _ => rfl
  · rw [flat2_snoc, show (rs ++ [(id, ln)]).length = rs.length + 1 by simp]
    exact hown1.kept (grown_setCell w1 ⟨B, 7, none⟩ _) (.inr (by simp [Value.ownBlock]; omega))
  · have h1 : Fal B k fv fm (W1.alloc o) := fal_kept hf (World.grownBy_alloc W1 o none) (fun _ _ => by simp)
    have h2 : Fal B k fv fm w1 := fal_kept (W := (W1.alloc o).drew) h1 hgrow (fun mb e he => by
      obtain ⟨_, es, clock, hm⟩ := fal_lt hf e
      rcases ho.2 with ⟨rfl, _⟩ | ⟨g', cap', cur, rfl, _, hc, _⟩
      · simp [Value.ownBlock] at he
      · simp only [Value.ownBlock, Option.some.injEq] at he
        subst he
        rw [hm] at hc
        cases hc)
    exact fal_mono (fal_kept h2 (grown_setCell w1 ⟨B, 7, none⟩ _) (fun mb e he => by
      have := (fal_lt hf e).1
      simp only [Option.some.injEq] at he
      omega)) (by omega)
  · refine Below.setCell (p := ⟨B, 7, none⟩) ?_ (Nat.le_refl _) _
    refine Below.grown (w := (W1.alloc o).drew) ((hB.alloc (by omega) o).drew) hgrow (by simp; omega) (fun j hj => ?_)
    have := (ho.lt j hj).1
    show B ≤ j
    omega

set_option maxRecDepth 100000 in
set_option maxHeartbeats 1000000 in
/-- Nothing has risen yet. -/
theorem uq_empty {w W : World} {B k : Nat} {ln : Int} {v fv : Value} {fm : Int → Option Int} (nm : ByteArray) (h : St w B k ln v fv [] fm W) (hk : k ≤ 1024) {id : Int} (hid : (Lit.int .i64 id).wf = true) (hc : comb fm [] id = none) :
    Calls Ybaf.prog 7 #[.pointer (some ⟨B, 0, none⟩), .string nm, .int .i64 id] W fun e w' => e = .returned .nilIface ∧ ∃ v' , St w B (k + 1) ln v' fv [(id, ln)] fm w' := by
  obtain ⟨i0, hi0, hz0, hz1, hz2⟩ := info_parts info59
  have hfl := firstLine_any h hk hid
  rw [hc] at hfl
  have hv : ∃ a cap, v = .slice a 0 cap := by
    rcases h.2.1.2 with ⟨rfl, _⟩ | ⟨g, cap, cur, rfl, _⟩
    · exact ⟨_, _, rfl⟩
    · exact ⟨_, _, rfl⟩
  obtain ⟨a, cap, rfl⟩ := hv
  have HS : Hid (St w B k ln (.slice a 0 cap) fv [] fm W) := h
  clear h hc hid
  go_enter Ybaf.func7, Ybaf.ntmps7
  go_wp2_with fail
  refine hfl.mono ?_
  rintro e W1 ⟨rfl, hb1⟩
  have HS1 : Hid (St w B k ln (.slice a 0 cap) fv [] fm W1) := st_kept HS.out hb1
  clear HS hb1 hfl
  have c7 : W1.cell? ⟨B, 7, none⟩ = some (.slice a 0 cap) := HS1.out.1.cell (i := 7) (by omega)
  have c2 : W1.cell? ⟨B, 2, none⟩ = some (.int .i64 ln) := HS1.out.1.cell (i := 2) (by omega)
  have f7 : W1.frozen? ⟨B, 7, none⟩ = false := HS1.out.1.frozen 7
  have hown : W1.ownsRow (B + 1) 59 2 (.slice a 0 cap) 0 [] := HS1.out.2.1
  have hBl : B < W1.heap.size := HS1.out.1.lt
  have ag : (Value.slice a 0 cap).ownBlock ≠ some B := fun e => by have := (hown.lt B e).1; omega
  rw [show lineOf none = .tuple #[.int .i64 0, .bool false] from rfl]
  go_wp2
  go_region_law ((refine step_append_lies _ (by rfl) _ _ _ (by rfl) (B + 1) 59 i0 _ 2 16 Ybaf.underlying28 hi0 hz0 hz1 hz2 rfl (by omega) (.slice a 0 cap) 0 [] (by rfl) ((hown.alloc _).drew) ⟨W1.heap.size, 0, none⟩ 1 1 [.int .i64 id, .int .i64 ln] (by rfl) (by rfl) (World.news_of_block (cs := #[.int .i64 id, .int .i64 ln]) (t := 59) (fr := (0, 0)) (heap_alloc_new W1 _)) (by simp [Value.oneCell']) (by omega) (by unfold maxLen; omega) (by omega) (by simp; omega) (W1.heap.size + 1) (by simp) ?_; intro gg cap' w1 hown1 hgrow hat hlt; have k7 := (hgrow.cell_far ⟨B, 7, none⟩ (by simp; omega) (Ne.symm ag)).trans (keepA hBl c7 c2 f7).1; have kf := (hgrow.frozen_far ⟨B, 7, none⟩ (by simp; omega) (Ne.symm ag)).trans (keepA hBl c7 c2 f7).2.2))
  all_goals
    go_wp2
    go_ret
    exact ⟨rfl, _, st_append HS1.out (fun x hx => by simp at hx) hown1 hgrow⟩

set_option maxRecDepth 100000 in
set_option maxHeartbeats 1000000 in
/-- The id stands above all that has risen. -/
theorem uq_above {w W : World} {B k : Nat} {ln : Int} {v fv : Value} {init : List (Int × Int)} {r : Int × Int} {fm : Int → Option Int} (nm : ByteArray) (h : St w B k ln v fv (init ++ [r]) fm W) (hk : k ≤ 1024) {id : Int} (hid : (Lit.int .i64 id).wf = true) (hc : comb fm (init ++ [r]) id = none) (hx : r.1 < id) :
    Calls Ybaf.prog 7 #[.pointer (some ⟨B, 0, none⟩), .string nm, .int .i64 id] W fun e w' => e = .returned .nilIface ∧ ∃ v' , St w B (k + 1) ln v' fv (init ++ [r] ++ [(id, ln)]) fm w' := by
  obtain ⟨i0, hi0, hz0, hz1, hz2⟩ := info_parts info59
  have hfl := firstLine_any h hk hid
  rw [hc] at hfl
  obtain ⟨g, cap, rfl, hcell⟩ := rising_cells h (by simp)
  have hlk := h.2.2.2.2.1
  have hl1 : (init ++ [r]).length = init.length + 1 := by simp
  have hall : Hid (∀ x ∈ init ++ [r], x.1 < id) := fun x hx' => by have := rise_last h.2.2.2.1 x hx'; omega
  have HS : Hid (St w B k ln (.slice (some ⟨g, 0, none⟩) (init.length + 1) cap) fv (init ++ [r]) fm W) := by rw [← hl1]; exact h
  have hd := (hcell init.length r (by simp)).1
  rw [hl1] at hlk
  generalize hq : init.length = q at HS hlk hd hl1
  generalize hxx : r.1 = x at hd hx
  have HL : Hid ((init ++ [r]).length = q + 1) := hl1
  clear h hc hid hcell hxx hl1 hq
  have hbl : g < W.heap.size := World.block_lt_of_cell? _ _ hd
  have z0 : (((q : Int) + 1) == 0) = false := by simp; omega
  have z1 : decide (x < id) = true := by simpa using hx
  go_enter Ybaf.func7, Ybaf.ntmps7
  go_wp2_with fail
  refine hfl.mono ?_
  rintro e W1 ⟨rfl, hb1⟩
  have HS1 : Hid (St w B k ln (.slice (some ⟨g, 0, none⟩) (q + 1) cap) fv (init ++ [r]) fm W1) := st_kept HS.out hb1
  have hd1 : W1.cell? ⟨g, q * 2, none⟩ = some (.int .i64 x) := (hb1.cell (p := ⟨g, q * 2, none⟩) hbl).trans hd
  clear HS hb1 hfl hd hbl
  have c7 : W1.cell? ⟨B, 7, none⟩ = some (.slice (some ⟨g, 0, none⟩) (q + 1) cap) := HS1.out.1.cell (i := 7) (by omega)
  have c2 : W1.cell? ⟨B, 2, none⟩ = some (.int .i64 ln) := HS1.out.1.cell (i := 2) (by omega)
  have f7 : W1.frozen? ⟨B, 7, none⟩ = false := HS1.out.1.frozen 7
  have hown : W1.ownsRow (B + 1) 59 2 (.slice (some ⟨g, 0, none⟩) (q + 1) cap) (q + 1) (flat2 (init ++ [r])) := by have := HS1.out.2.1; rw [HL.out] at this; exact this
  have hBl : B < W1.heap.size := HS1.out.1.lt
  have ag : (Value.slice (some ⟨g, 0, none⟩) (q + 1) cap).ownBlock ≠ some B := fun e => by have := (hown.lt B e).1; omega
  generalize hxs : flat2 (init ++ [r]) = xs at hown
  have HX : Hid (flat2 (init ++ [r]) = xs) := hxs
  clear hxs
  rw [show lineOf none = .tuple #[.int .i64 0, .bool false] from rfl]
  go_wp2
  go_region_law ((refine step_append_lies _ (by rfl) _ _ _ (by rfl) (B + 1) 59 i0 _ 2 16 Ybaf.underlying28 hi0 hz0 hz1 hz2 rfl (by omega) (.slice (some ⟨g, 0, none⟩) (q + 1) cap) (q + 1) xs (by rfl) ((hown.alloc _).drew) ⟨W1.heap.size, 0, none⟩ 1 1 [.int .i64 id, .int .i64 ln] (by rfl) (by rfl) (World.news_of_block (cs := #[.int .i64 id, .int .i64 ln]) (t := 59) (fr := (0, 0)) (heap_alloc_new W1 _)) (by simp [Value.oneCell']) (by omega) (by unfold maxLen; omega) (by omega) (by simp; omega) (W1.heap.size + 1) (by simp) ?_; intro gg cap' w1 hown1 hgrow hat hlt; have k7 := (hgrow.cell_far ⟨B, 7, none⟩ (by simp; omega) (Ne.symm ag)).trans (keepA hBl c7 c2 f7).1; have kf := (hgrow.frozen_far ⟨B, 7, none⟩ (by simp; omega) (Ne.symm ag)).trans (keepA hBl c7 c2 f7).2.2))
  all_goals
    go_wp2
    go_ret
    have hfin := st_append (rs := init ++ [r]) (g := gg) (cap := cap') HS1.out hall.out (by rw [HX.out, HL.out]; exact hown1) hgrow
    rw [HL.out] at hfin
    exact ⟨rfl, _, hfin⟩
end Go.Proofs.YbulkkswFmt
