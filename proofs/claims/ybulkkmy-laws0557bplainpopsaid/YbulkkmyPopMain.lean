/-
  THE WALK OF LawS0557BPlainPop (function 4): pushes, pops, the runs laid out, the comparison.
-/
import Derived.Test.YbulkkmyPopWalk
import Derived.Deep.DeepCutAuto
namespace Go.Proofs.Ybulkkmy
open Go.RowKit
theorem info9 : ∃ i, Yba.prog.info? 9 = some i ∧ i.zero = some (.string { data := #[] }) ∧ i.size = 1 ∧ i.bytes = 16 := by
  have h : (Yba.prog.info? 9).map (fun i => (i.zero, i.size, i.bytes)) = some (some (.string { data := #[] }), 1, 16) := by kernel_rfl
  obtain ⟨i, hi, hz⟩ := Option.map_eq_some_iff.1 h
  simp only [Prod.mk.injEq] at hz
  exact ⟨i, hi, hz⟩
set_option maxRecDepth 100000 in
set_option maxHeartbeats 1000000 in
theorem pop_main (b0 o0 cap0 : Nat) (its : List ByteArray) (L p : Nat) (ind : ByteArray) (w : World) (hLe : its.length = L) (hL1 : L ≤ 1024) (hpos : 0 < L) (hp : p ≤ 255) (hcap : L ≤ cap0) (hcap1 : cap0 ≤ 9223372036854775807)
    (hS : ∀ j, j < L → w.cell? ⟨b0, o0 + j, none⟩ = some (.string (its.getD j ByteArray.empty))) :
    Calls Yba.prog 4 #[.slice (some ⟨b0, o0, none⟩) L cap0, .int .u8 p, .string ind] w fun e w' => e = .returned (.bool true) ∧ Below w.heap.size w w' := by
  have hb0 : b0 < w.heap.size := World.block_lt_of_cell? _ _ (hS 0 hpos)
  have H : Hid (its.length = L) := hLe
  clear hLe
  have hst : Holds w w.heap.size [] (w.alloc (.cells #[.string { data := #[] }, .int .i64 0, .string { data := #[] }, .string { data := #[] }, .bool false, .bool false, .slice none 0 0, .slice none 0 0, .slice none 0 0, .bool false, .string { data := #[] }, .int .i64 0, .pointer none, .pointer none, .bool false] 46)) :=
    ⟨[], rfl, fun r hr => by simp at hr, .inl ⟨rfl, sc_new w, (Below.refl _ _).alloc (Nat.le_refl _) _⟩⟩
  go_enter Yba.func4, Yba.ntmps4
  go_wp2
  go_loopw [24] (fun i wr => ∃ k : Nat, k ≤ L ∧ i = .int .i64 k ∧ Holds w w.heap.size (its.take k) wr) (fun i _ => L - (intOf i).toNat)
  case atStart => exact ⟨0, Nat.zero_le _, rfl, by simpa using hst⟩
  case round =>
    clear hst
    obtain ⟨k, hk, rfl, hh⟩ := hrel
    have hbel : Below w.heap.size w wr := by
      obtain ⟨rs, _, _, hs⟩ := hh
      rcases hs with ⟨_, _, hb⟩ | ⟨_, _, _, _, _, _, _, hb⟩ <;> exact hb
    by_cases hlt : k < L
    · have hcs : wr.cell? ⟨b0, o0 + k, none⟩ = some (.string (its.getD k ByteArray.empty)) := (hbel.cell (p := ⟨b0, o0 + k, none⟩) hb0).trans (hS k hlt)
      have hpush := push_any w wr w.heap.size (its.take k) (its.getD k ByteArray.empty) hh (by rw [List.length_take]; omega)
      have hsn : Hid (its.take (k + 1) = its.take k ++ [its.getD k ByteArray.empty]) := by
        have e := H.out
        show _ = _
        rw [List.take_succ_eq_append_getElem (by omega)]
        simp [List.getD, show k < its.length by omega]
      generalize its.getD k ByteArray.empty = s at hcs hpush hsn
      clear hS hh
      go_wp2_with (go_at_call 9; refine hpush.mono ?_; rintro e w' ⟨rfl, hk'⟩)
      go_roundw
      case rel => exact ⟨k + 1, by omega, by go_num, by rw [hsn.out]; exact hk'⟩
      case measure => simp [intOf]; omega
    · obtain ⟨P, hP⟩ : ∃ P : Nat, P = min p L := ⟨_, rfl⟩
      have hPL : P ≤ L := by omega
      have e : L = k := by omega
      subst e
      clear hk hlt
      go_upto_if 39 with (fail)
      go_cut [10] (fun v wc => v = .int .i64 P ∧ wc = wr)
      case first =>
        by_cases hpl : (L : Int) < p
        · have hPe : P = L := by omega
          go_wp2
          go_meet
          exact ⟨by rw [hPe], rfl⟩
        · have hPe : P = p := by omega
          go_wp2
          go_meet
          exact ⟨by rw [hPe], rfl⟩
      case rest =>
        obtain ⟨rfl, rfl⟩ := hcut
        clear hP
        go_wp2
        go_loopw [11] (fun i wr => ∃ j : Nat, j ≤ P ∧ i = .int .i64 j ∧ Holds w w.heap.size (its.take (L - j)) wr) (fun i _ => P - (intOf i).toNat)
        case atStart => exact ⟨0, Nat.zero_le _, rfl, by simpa using hh⟩
        case round =>
          clear hh
          obtain ⟨j, hj, rfl, hh⟩ := hrel
          by_cases hlt : j < P
          · obtain ⟨x, hx⟩ : ∃ x, its.take (L - j) = its.take (L - (j + 1)) ++ [x] := by
              have e := H.out
              refine ⟨its[L - (j + 1)], ?_⟩
              rw [show L - j = L - (j + 1) + 1 by omega, List.take_succ_eq_append_getElem (by omega)]
            rw [hx] at hh
            clear hx
            have hpop := popIndent_any w wr w.heap.size (its.take (L - (j + 1))) x ind hh (by rw [List.length_take]; omega)
            clear hh hS
            go_wp2_with (go_at_call 10; refine hpop.mono ?_; rintro e w' ⟨rfl, hk'⟩)
            go_roundw
            case rel => exact ⟨j + 1, by omega, by go_num, hk'⟩
            case measure => simp [intOf]; omega
          · have hjP : P = j := by omega
            subst hjP
            clear hj hlt
            obtain ⟨rs, he, hg, hs⟩ := hh
            have hlen : (expand rs).length = L - P := by rw [he, List.length_take, H.out]; omega
            rcases hs with ⟨rfl, hr, hb⟩ | ⟨rb, C, hr, ho, hB, hC1, hC, hb⟩
            · have c7 : wr.cell? ⟨w.heap.size, 7, none⟩ = some (.slice none 0 0) := hr.cell (i := 7) (by omega)
              have c8 : wr.cell? ⟨w.heap.size, 8, none⟩ = some (.slice none 0 0) := hr.cell (i := 8) (by omega)
              have c11 : wr.cell? ⟨w.heap.size, 11, none⟩ = some (.int .i64 0) := hr.cell (i := 11) (by omega)
              have c12 : wr.cell? ⟨w.heap.size, 12, none⟩ = some (.pointer none) := hr.cell (i := 12) (by omega)
              have hLP : L - P = 0 := by rw [← hlen]; rfl
              clear hS he hg hr hlen H
              go_wp2
              go_loop [62, 13] (fun i v => i = .int .i64 0 ∧ v = .slice none 0 0) (fun _ _ => 0)
              case atStart => exact ⟨rfl, rfl⟩
              case round =>
                obtain ⟨rfl, rfl⟩ := hrel
                go_wp2_with (first | (go_at_call 11; refine (beq_nil _ _ _ _ wr).mono ?_; rintro e w' ⟨rfl, nq, rfl⟩) | (go_at_call 12; refine (indents_empty w.heap.size _ (by simpa using c11) (by simpa using c12)).mono ?_; rintro e w' ⟨rfl, rfl⟩) | (go_at_call 13; refine (closed_empty w.heap.size _ (by simpa using c8)).mono ?_; rintro e w' ⟨rfl, rfl⟩))
                go_ret
                exact ⟨rfl, below_drewN hb _⟩
            · have c7 : wr.cell? ⟨w.heap.size, 7, none⟩ = some (.slice (some ⟨rb, 0, none⟩) rs.length C) := hr.cell (i := 7) (by omega)
              have hfl : Fl w w.heap.size rb C rs (.slice none 0 0) [] wr := ⟨hr, ho, World.ownsRow_nil _ _ _ _, hb⟩
              have hRl : rs.length ≤ 1024 := by have := expand_length_ge rs hg; omega
              have hCl := own_len ho
              clear hr ho hb
              go_wp2
              go_loopw [62, 13] (fun i v wr => ∃ m : Nat, m ≤ rs.length ∧ i = .int .i64 m ∧ Fl w w.heap.size rb C rs v (expand (rs.take m)) wr) (fun i _ _ => rs.length - (intOf i).toNat)
              case atStart => exact ⟨0, Nat.zero_le _, rfl, hfl⟩
              case round =>
                clear hfl c7
                obtain ⟨m, hm, rfl, hfl⟩ := hrel
                by_cases hlt : m < rs.length
                · obtain ⟨r, hr⟩ : ∃ r, rs[m]? = some r := ⟨rs[m], by simp [hlt]⟩
                  obtain ⟨s, n⟩ := r
                  have hd0 : wr.cell? ⟨rb, m * 2, none⟩ = some (.string s) := own_cell0 hfl.2.1 hr
                  have hd1 : wr.cell? ⟨rb, m * 2 + 1, none⟩ = some (.int .i64 n) := own_cell1 hfl.2.1 hr
                  have hn1 : n ≤ 1024 := by have := count_le rs (s, n) (List.mem_of_getElem? hr); omega
                  have hnx : expand (rs.take (m + 1)) = expand (rs.take m) ++ List.replicate n s := by
                    rw [List.take_add_one, hr, expand_append]
                    simp [expand]
                  have hbd : ∀ q, q ≤ n → (expand (rs.take m) ++ List.replicate q s).length ≤ 1024 := by
                    intro q hq
                    have h1 : (expand (rs.take (m + 1))).length ≤ (expand rs).length := by
                      have e := List.take_append_drop (m + 1) rs
                      have e2 := congrArg (fun x => (expand x).length) e
                      simp only [expand_append, List.length_append] at e2
                      omega
                    rw [hnx] at h1
                    simp only [List.length_append, List.length_replicate] at h1 ⊢
                    omega
                  have hflA := fl_alloc hfl (.cells #[.string s, .int .i64 n] 49)
                  have hzA : (wr.alloc (.cells #[.string s, .int .i64 n] 49)).heap[wr.heap.size]? = some (.cells #[.string s, .int .i64 n] 49 (0, 0)) := Deep.blk_alloc_new _ _
                  have HN : Hid (expand (rs.take (m + 1)) = expand (rs.take m) ++ List.replicate n s) := hnx
                  clear hfl hr hnx hg he hlen hS
                  go_wp2
                  generalize wr.heap.size = Z at hzA
                  go_loopw [16, 13] (fun j v w4 => ∃ q : Nat, q ≤ n ∧ j = .int .i64 q ∧ Fl w w.heap.size rb C rs v (expand (rs.take m) ++ List.replicate q s) w4 ∧ w4.heap[Z]? = some (.cells #[.string s, .int .i64 n] 49 (0, 0))) (fun j _ _ => n - (intOf j).toNat)
                  case atStart => exact ⟨0, Nat.zero_le _, rfl, by simpa using hflA, hzA⟩
                  case round =>
                    clear hflA hzA hd0 hd1
                    obtain ⟨q, hq, rfl, hfl, hz⟩ := hrel
                    have hz0 : wr.cell? ⟨Z, 0, none⟩ = some (.string s) := by simp [World.cell?, hz]
                    have hz1 : wr.cell? ⟨Z, 1, none⟩ = some (.int .i64 n) := by simp [World.cell?, hz]
                    by_cases hqn : q < n
                    · have hb1 := hbd q (by omega)
                      obtain ⟨i9, hi, hzz, hsz, hby⟩ := info9
                      have hbase : w.heap.size + 1 ≤ wr.heap.size := by have := hfl.1.lt; omega
                      have hrep : Hid (expand (rs.take m) ++ List.replicate (q + 1) s = expand (rs.take m) ++ List.replicate q s ++ [s]) := by
                        show _ = _
                        rw [List.replicate_succ', List.append_assoc]
                      obtain ⟨l, hl⟩ : ∃ l, l = expand (rs.take m) ++ List.replicate q s := ⟨_, rfl⟩
                      rw [← hl] at hfl hb1
                      have hrep2 : Hid (expand (rs.take m) ++ List.replicate (q + 1) s = l ++ [s]) := by show _ = _; rw [hl]; exact hrep.out
                      clear hl hrep hbd HN H
                      have HF : Hid (Fl w w.heap.size rb C rs u13 l wr) := hfl
                      have HZ : Hid (wr.heap[Z]? = some (.cells #[.string s, .int .i64 n] 49 (0, 0))) := hz
                      have hown := hfl.2.2.1.alloc (.cells #[.string s] 9)
                      clear hfl hz
                      go_wp2_with (at_builtin; refine wpList_append_own _ rfl _ _ 29 rfl (w.heap.size + 1) 9 i9 (.string { data := #[] }) 1 16 Yba.underlying29 hi hzz hsz hby rfl (by decide) _ _ _ rfl hown ⟨wr.heap.size, 0, none⟩ 1 1 [.string s] rfl rfl ?c1 ?c2 ?c3 ?c4 ?c5 ?_)
                      case c1 =>
                        intro j u hj
                        match j, hj with
                        | 0, hj => simp at hj; subst hj; simp [Addr.add]
                      case c2 => intro u hu; simp at hu; subst hu; rfl
                      case c3 => unfold maxLen; omega
                      case c4 => omega
                      case c5 => simp; omega
                      intro v' w1 hown' hgrow _
                      have hfl' := fl_append (s := s) (fl_alloc HF.out (.cells #[.string s] 9)) hgrow hown'
                      have hz' : w1.heap[Z]? = some (.cells #[.string s, .int .i64 n] 49 (0, 0)) := grown_keeps (HF.out.2.2.1.alloc _) hgrow (by rw [Deep.blk_alloc_lt _ _ _ ((Array.getElem?_eq_some_iff.1 HZ.out).1)]; exact HZ.out) (by decide)
                      clear hown hown' hgrow hz0 hz1
                      have HF' : Hid (Fl w w.heap.size rb C rs v' (l ++ [s]) w1) := hfl'
                      have HZ' : Hid (w1.heap[Z]? = some (.cells #[.string s, .int .i64 n] 49 (0, 0))) := hz'
                      clear hfl' hz'
                      go_wp2
                      go_roundw
                      case rel => exact ⟨q + 1, by omega, by go_num, by rw [hrep2.out]; exact HF'.out, HZ'.out⟩
                      case measure => simp [intOf]; omega
                    · have e : n = q := by omega
                      subst e
                      have HF : Hid (Fl w w.heap.size rb C rs u13 (expand (rs.take (m + 1))) wr) := by show Fl _ _ _ _ _ _ _ _; rw [HN.out]; exact hfl
                      clear hfl hz hbd H HN
                      go_wp2
                      go_roundw
                      case rel => exact ⟨m + 1, by omega, by go_num, HF.out⟩
                      case measure => simp [intOf]; omega
                · have e : rs.take m = rs := List.take_of_length_le (by omega)
                  rw [e, he] at hfl
                  have hLl : (its.take (L - P)).length = L - P := by rw [← he]; exact hlen
                  obtain ⟨a, ca, hv, hstr⟩ := fl_strs hfl
                  have hstr2 : Strs (its.take (L - P)) (some ⟨b0, o0, none⟩) wr := by
                    intro j hj
                    refine ⟨b0, o0, rfl, ?_⟩
                    rw [(hfl.2.2.2.cell (p := ⟨b0, o0 + j, none⟩) hb0), hS j (by omega)]
                    simp [show j < L - P by omega]
                  have hbeq := beq_any (its.take (L - P)) a (some ⟨b0, o0, none⟩) ca cap0 wr (by omega) hstr hstr2
                  rw [hLl] at hbeq hv
                  subst hv
                  have c8 : wr.cell? ⟨w.heap.size, 8, none⟩ = some (.slice none 0 0) := hfl.1.cell (i := 8) (by omega)
                  have c11 : wr.cell? ⟨w.heap.size, 11, none⟩ = some (.int .i64 0) := hfl.1.cell (i := 11) (by omega)
                  have c12 : wr.cell? ⟨w.heap.size, 12, none⟩ = some (.pointer none) := hfl.1.cell (i := 12) (by omega)
                  have hb := hfl.2.2.2
                  clear hfl hstr hstr2 hS he hlen hLl e hg H
                  go_wp2_with (first | (go_at_call 11; refine hbeq.mono ?_; rintro e w' ⟨rfl, nq, rfl⟩) | (go_at_call 12; refine (indents_empty w.heap.size _ (by simpa using c11) (by simpa using c12)).mono ?_; rintro e w' ⟨rfl, rfl⟩) | (go_at_call 13; refine (closed_empty w.heap.size _ (by simpa using c8)).mono ?_; rintro e w' ⟨rfl, rfl⟩))
                  go_ret
                  exact ⟨rfl, below_drewN hb _⟩

set_option maxRecDepth 100000 in
set_option maxHeartbeats 400000 in
/-- No item: nothing is pushed, nothing popped. -/
theorem pop_zero (a0 : Option Addr) (cap0 p : Nat) (ind : ByteArray) (w : World) (hp : p ≤ 255) (hcap1 : cap0 ≤ 9223372036854775807) (ha : a0 = none → cap0 = 0) :
    Calls Yba.prog 4 #[.slice a0 0 cap0, .int .u8 p, .string ind] w fun e w' => e = .returned (.bool true) ∧ Below w.heap.size w w' := by
  have hb := (Below.refl w.heap.size w).alloc (Nat.le_refl _) (.cells #[.string { data := #[] }, .int .i64 0, .string { data := #[] }, .string { data := #[] }, .bool false, .bool false, .slice none 0 0, .slice none 0 0, .slice none 0 0, .bool false, .string { data := #[] }, .int .i64 0, .pointer none, .pointer none, .bool false] 46)
  by_cases hpl : (0 : Int) < p
  all_goals
    rcases a0 with _ | x
    · have hcz := ha rfl
      subst hcz
      clear ha
      go_enter Yba.func4, Yba.ntmps4
      go_wp2
      go_loop [24] (fun i => i = .int .i64 0) (fun _ => 0)
      case atStart => rfl
      case round =>
        subst hrel
        go_wp2
        go_loop [11] (fun i => i = .int .i64 0) (fun _ => 0)
        case atStart => rfl
        case round =>
          subst hrel
          go_wp2
          go_loop [62, 13] (fun i v => i = .int .i64 0 ∧ v = .slice none 0 0) (fun _ _ => 0)
          case atStart => exact ⟨rfl, rfl⟩
          case round =>
            obtain ⟨rfl, rfl⟩ := hrel
            go_wp2_with (first | (go_at_call 11; refine (beq_nil _ _ _ _ _).mono ?_; rintro e w' ⟨rfl, nq, rfl⟩) | (go_at_call 12; refine (indents_empty w.heap.size _ (by simp) (by simp)).mono ?_; rintro e w' ⟨rfl, rfl⟩) | (go_at_call 13; refine (closed_empty w.heap.size _ (by simp)).mono ?_; rintro e w' ⟨rfl, rfl⟩))
            go_ret
            exact ⟨rfl, below_drewN hb _⟩
    · clear ha
      go_enter Yba.func4, Yba.ntmps4
      go_wp2
      go_loop [24] (fun i => i = .int .i64 0) (fun _ => 0)
      case atStart => rfl
      case round =>
        subst hrel
        go_wp2
        go_loop [11] (fun i => i = .int .i64 0) (fun _ => 0)
        case atStart => rfl
        case round =>
          subst hrel
          go_wp2
          go_loop [62, 13] (fun i v => i = .int .i64 0 ∧ v = .slice none 0 0) (fun _ _ => 0)
          case atStart => exact ⟨rfl, rfl⟩
          case round =>
            obtain ⟨rfl, rfl⟩ := hrel
            go_wp2_with (first | (go_at_call 11; refine (beq_nil _ _ _ _ _).mono ?_; rintro e w' ⟨rfl, nq, rfl⟩) | (go_at_call 12; refine (indents_empty w.heap.size _ (by simp) (by simp)).mono ?_; rintro e w' ⟨rfl, rfl⟩) | (go_at_call 13; refine (closed_empty w.heap.size _ (by simp)).mono ?_; rintro e w' ⟨rfl, rfl⟩))
            go_ret
            exact ⟨rfl, below_drewN hb _⟩

/-- More than 1024 items: true at once. -/
theorem pop_many (a0 : Option Addr) (len0 cap0 : Nat) (p : Int) (ind : ByteArray) (w : World) (h : 1024 < len0) :
    Calls Yba.prog 4 #[.slice a0 len0 cap0, .int .u8 p, .string ind] w fun e w' => e = .returned (.bool true) ∧ Below w.heap.size w w' := by
  go_enter Yba.func4, Yba.ntmps4
  go_wp2
  go_ret
  exact ⟨rfl, Below.refl _ _⟩
end Go.Proofs.Ybulkkmy
