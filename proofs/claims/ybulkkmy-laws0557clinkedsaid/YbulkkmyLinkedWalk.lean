/-
  THE WALK OF LawS0557CLinked (function 6): three loops; the memory by the lemmas of YbulkkmyNodes.
-/
import Derived.Test.YbulkkmyRuns
import Derived.Test.YbulkkmyNodes
import Derived.WalkSmall
import Derived.Deep.QuietTactic
import Derived.BigQuiet
namespace Go.Proofs.Ybulkkmy
open Go.RowKit

theorem info42 : (Yba.prog.info? 42).map (fun i => (i.zero, i.size, i.bytes)) = some (some (.pointer none), 1, 8) := by kernel_rfl
set_option maxRecDepth 100000 in
set_option maxHeartbeats 1000000 in
theorem linked (b0 o0 L cap0 : Nat) (a1 : Option Addr) (len1 cap1 : Nat) (S : Nat → ByteArray) (K : Nat → Int) (w : World) (hL : L ≤ 1024) (hpos : 0 < L) (hc1 : len1 ≤ 9223372036854775807)
    (hS : ∀ j, j < L → w.cell? ⟨b0, o0 + j, none⟩ = some (.string (S j)))
    (hK : ∀ j, j < len1 → ∃ b o, a1 = some ⟨b, o, none⟩ ∧ w.cell? ⟨b, o + j, none⟩ = some (.int .i64 (K j))) (hK1 : ∀ j, ¬ j < len1 → K j = 1) :
    Calls Yba.prog 6 #[.slice (some ⟨b0, o0, none⟩) L cap0, .slice a1 len1 cap1] w fun e w' => e = .returned (.bool true) ∧ Below w.heap.size w w' := by
  have hb0 : b0 < w.heap.size := World.block_lt_of_cell? _ _ (hS 0 hpos)
  have hmk := run_make_row' (P := Yba.prog) 59 42 (.pointer none) 8 Yba.underlying59 info42 rfl .i64 .i64 L (by omega) (by omega)
  go_enter Yba.func6, Yba.ntmps6
  go_wp2
  clear hmk
  go_loopw [6] (fun i wr => ∃ k : Nat, k ≤ L ∧ i = .int .i64 k ∧ Laid w L S K k wr) (fun i _ => L - (intOf i).toNat)
  case atStart => exact ⟨0, Nat.zero_le _, rfl, laid_start w L S K⟩
  case round =>
    obtain ⟨k, hk, rfl, hl⟩ := hrel
    by_cases hlt : k < L
    · have hcs : wr.cell? ⟨b0, o0 + k, none⟩ = some (.string (S k)) := (hl.2.2.2.cell (p := ⟨b0, o0 + k, none⟩) hb0).trans (hS k hlt)
      have hcp : wr.cell? ⟨w.heap.size, k, none⟩ = some (.pointer none) := by have := hl.2.1.cell hlt; simpa using this
      have hfp : wr.frozen? ⟨w.heap.size, k, none⟩ = false := hl.2.1.frozen k
      have hz : w.heap.size < wr.heap.size := hl.2.1.lt
      by_cases hn : k < len1
      · obtain ⟨b, o, rfl, hcz⟩ := hK k hn
        have hczr : wr.cell? ⟨b, o + k, none⟩ = some (.int .i64 (K k)) := (hl.2.2.2.cell (p := ⟨b, o + k, none⟩) (World.block_lt_of_cell? _ _ hcz)).trans hcz
        clear hS hcz hK hK1
        go_wp2
        go_roundw
        case rel => exact ⟨k + 1, by omega, by go_num, laid_step hl⟩
        case measure => simp [intOf]; omega
      · have hk1 := hK1 k hn
        have hl' := laid_step hl
        rw [hk1] at hl'
        have H : Hid (Laid w L S K (k + 1) ((wr.setCell ⟨w.heap.size, k, none⟩ (.pointer (some ⟨wr.heap.size, 0, none⟩))).alloc (.cells #[.string (S k), .int .i64 1, .pointer none] 56))) := hl'
        clear hS hK hK1 hl' hk1
        go_wp2
        go_roundw
        case rel => exact ⟨k + 1, by omega, by go_num, H.out⟩
        case measure => simp [intOf]; omega
    · have : k = L := by omega
      subst this
      have ht := tied_start hl
      clear hl hlt hk
      go_wp2
      go_loopw [8] (fun i wr => ∃ j : Nat, j + 1 ≤ k ∧ i = .int .i64 j ∧ Tied w k S K j wr) (fun i _ => k - (intOf i).toNat)
      case atStart => exact ⟨0, by omega, rfl, ht⟩
      case round =>
        clear ht
        obtain ⟨j, hj, rfl, hl⟩ := hrel
        have hcp : wr.cell? ⟨w.heap.size, j, none⟩ = some (.pointer (some ⟨w.heap.size + 1 + j, 0, none⟩)) := hl.2.1.cell (by omega)
        by_cases hlt : j + 1 < k
        · have hcp1 : wr.cell? ⟨w.heap.size, j + 1, none⟩ = some (.pointer (some ⟨w.heap.size + 1 + (j + 1), 0, none⟩)) := hl.2.1.cell hlt
          have hcn : wr.cell? ⟨w.heap.size + 1 + j, 2, none⟩ = some (.pointer none) := by have := (hl.2.2.1 j (by omega)).cell (i := 2) (by omega); simpa [nd] using this
          have hfn : wr.frozen? ⟨w.heap.size + 1 + j, 2, none⟩ = false := (hl.2.2.1 j (by omega)).frozen 2
          have hs := tied_step hl
          clear hS hK hK1 hl
          go_wp2
          go_region
          go_wp2
          go_roundw
          case rel => exact ⟨j + 1, by omega, by go_num, tied_drew hs⟩
          case measure => simp [intOf]; omega
        · have hjk : j + 1 = k := by omega
          have hc0 : wr.cell? ⟨w.heap.size, 0, none⟩ = some (.pointer (some ⟨w.heap.size + 1 + 0, 0, none⟩)) := hl.2.1.cell (by omega)
          have hcl : wr.cell? ⟨w.heap.size, k - 1, none⟩ = some (.pointer (some ⟨w.heap.size + 1 + (k - 1), 0, none⟩)) := hl.2.1.cell (by omega)
          have hz : w.heap.size < wr.heap.size := hl.2.1.lt
          have hd := done_of j hjk hl { data := #[] } 0
          have hpn := ptr_neq_same
          clear hl hcp hjk
          go_wp2_with (go_at_call 14; refine (runs_link_new _ _ _ _ wr).mono ?_; rintro e w' ⟨rfl, rfl⟩)
          clear hc0 hcl
          generalize wr.heap.size = q at hd
          go_loopw [12] (fun i wr => ∃ m : Nat, m ≤ k ∧ i = .int .i64 m ∧ Done w k S K q wr) (fun i _ => k - (intOf i).toNat)
          case atStart => exact ⟨0, by omega, rfl, hd⟩
          case round =>
            clear hd
            obtain ⟨m, hm, rfl, hd⟩ := hrel
            obtain ⟨hr, hnn, h2, h3, hb⟩ := hd
            have hd : Done w k S K q wr := ⟨hr, hnn, h2, h3, hb⟩
            by_cases hmk : m < k
            · have hcs : wr.cell? ⟨b0, o0 + m, none⟩ = some (.string (S m)) := (hb.cell (p := ⟨b0, o0 + m, none⟩) hb0).trans (hS m hmk)
              have hcp : wr.cell? ⟨w.heap.size, m, none⟩ = some (.pointer (some ⟨w.heap.size + 1 + m, 0, none⟩)) := hr.cell hmk
              have hn0 : wr.cell? ⟨w.heap.size + 1 + m, 0, none⟩ = some (.string (S m)) := (hnn m hmk).cell (i := 0) (by omega)
              have hn1 : wr.cell? ⟨w.heap.size + 1 + m, 1, none⟩ = some (.int .i64 (K m)) := (hnn m hmk).cell (i := 1) (by omega)
              have hn2 := (hnn m hmk).cell (i := 2) (by omega)
              clear hS hnn
              by_cases hml : m < len1
              · obtain ⟨b, o, rfl, hcz⟩ := hK m hml
                have hczr : wr.cell? ⟨b, o + m, none⟩ = some (.int .i64 (K m)) := (hb.cell (p := ⟨b, o + m, none⟩) (World.block_lt_of_cell? _ _ hcz)).trans hcz
                clear hcz hK hK1
                by_cases hm1 : m + 1 < k
                · have hcp1 : wr.cell? ⟨w.heap.size, m + 1, none⟩ = some (.pointer (some ⟨w.heap.size + 1 + (m + 1), 0, none⟩)) := hr.cell hm1
                  have hn2' : wr.cell? ⟨w.heap.size + 1 + m, 2, none⟩ = some (.pointer (some ⟨w.heap.size + 1 + (m + 1), 0, none⟩)) := by rw [hn2]; simp [nd, hm1, pt]
                  clear hr hn2 hb h2 h3
                  go_wp2
                  go_quiet (fail)
                  go_wp2
                  go_quiet (fail)
                  go_wp2
                  go_roundw
                  case rel => exact ⟨m + 1, by omega, by go_num, by first | exact done_drewN _ (done_drewN _ hd) | exact done_drewN _ hd⟩
                  case measure => simp [intOf]; omega
                · have hn2' : wr.cell? ⟨w.heap.size + 1 + m, 2, none⟩ = some (.pointer none) := by rw [hn2]; simp [nd, hm1]
                  clear hr hn2 hb h2 h3
                  go_wp2
                  go_quiet (fail)
                  go_wp2
                  go_roundw
                  case rel => exact ⟨m + 1, by omega, by go_num, done_drewN _ hd⟩
                  case measure => simp [intOf]; omega
              · rw [hK1 m hml] at hn1
                clear hK hK1
                by_cases hm1 : m + 1 < k
                · have hcp1 : wr.cell? ⟨w.heap.size, m + 1, none⟩ = some (.pointer (some ⟨w.heap.size + 1 + (m + 1), 0, none⟩)) := hr.cell hm1
                  have hn2' : wr.cell? ⟨w.heap.size + 1 + m, 2, none⟩ = some (.pointer (some ⟨w.heap.size + 1 + (m + 1), 0, none⟩)) := by rw [hn2]; simp [nd, hm1, pt]
                  clear hr hn2 hb h2 h3
                  go_wp2
                  go_quiet (fail)
                  go_wp2
                  go_quiet (fail)
                  go_wp2
                  go_roundw
                  case rel => exact ⟨m + 1, by omega, by go_num, by first | exact done_drewN _ (done_drewN _ hd) | exact done_drewN _ hd⟩
                  case measure => simp [intOf]; omega
                · have hn2' : wr.cell? ⟨w.heap.size + 1 + m, 2, none⟩ = some (.pointer none) := by rw [hn2]; simp [nd, hm1]
                  clear hr hn2 hb h2 h3
                  go_wp2
                  go_quiet (fail)
                  go_wp2
                  go_roundw
                  case rel => exact ⟨m + 1, by omega, by go_num, done_drewN _ hd⟩
                  case measure => simp [intOf]; omega
            · have hc0 : wr.cell? ⟨w.heap.size, 0, none⟩ = some (.pointer (some ⟨w.heap.size + 1, 0, none⟩)) := hr.cell hpos
              have hcl : wr.cell? ⟨w.heap.size, k - 1, none⟩ = some (.pointer (some ⟨w.heap.size + 1 + (k - 1), 0, none⟩)) := hr.cell (by omega)
              have hpe := ptr_eql_same
              clear hS hK hK1 hr hnn hd
              go_wp2
              go_quiet (fail)
              go_wp2
              go_ret
              exact ⟨rfl, below_drewN hb _⟩

set_option maxRecDepth 100000 in
/-- No node at all: the list is empty, runs makes one empty run. -/
theorem linked_zero (a0 : Option Addr) (cap0 : Nat) (a1 : Option Addr) (len1 cap1 : Nat) (w : World) :
    Calls Yba.prog 6 #[.slice a0 0 cap0, .slice a1 len1 cap1] w fun e w' => e = .returned (.bool true) ∧ Below w.heap.size w w' := by
  have hmk : ∀ w, (Instr.makeSlice 59 (.int .i64 0) (.int .i64 0)).run Yba.prog w = .ok (.slice (some ⟨w.heap.size, 0, none⟩) 0 0) (w.alloc (.cells (madeCells #[.pointer none] 0) 42)) :=
    fun w => run_make_row' (P := Yba.prog) 59 42 (.pointer none) 8 Yba.underlying59 info42 rfl .i64 .i64 0 (by omega) (by omega) w
  have hpe := ptr_eql_same
  go_enter Yba.func6, Yba.ntmps6
  go_wp2
  go_loop [6] (fun i => i = .int .i64 0) (fun _ => 0)
  case atStart => rfl
  case round =>
    subst hrel
    go_wp2
    go_loop [8] (fun i => i = .int .i64 0) (fun _ => 0)
    case atStart => rfl
    case round =>
      subst hrel
      go_wp2_with (go_at_call 14; refine (runs_new_at (w.heap.size + 1) _ _ _ ?h).mono ?_; rotate_left; rintro e w' ⟨rfl, rfl⟩)
      go_ret
      exact ⟨rfl, ((((Below.refl _ _).alloc (Nat.le_refl _) _).alloc (by simp) _).alloc (by simp; omega) _).drew⟩

set_option maxRecDepth 100000 in
/-- More than 1024 strings: true at once. -/
theorem linked_many (a0 : Option Addr) (len0 cap0 : Nat) (a1 : Option Addr) (len1 cap1 : Nat) (w : World) (h : 1024 < len0) :
    Calls Yba.prog 6 #[.slice a0 len0 cap0, .slice a1 len1 cap1] w fun e w' => e = .returned (.bool true) ∧ Below w.heap.size w w' := by
  go_enter Yba.func6, Yba.ntmps6
  go_wp2
  go_ret
  exact ⟨rfl, Below.refl _ _⟩
end Go.Proofs.Ybulkkmy
