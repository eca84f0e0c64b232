/-
  The walks of zzs0568amodel (6), firstLine's closure (26), sort.Search with it (25), firstLine (16).
-/
import Derived.Test.YbulkkswFmtLines
import Derived.WalkKit
import Derived.WalkSpells
import Derived.WalkLawsBesides
import Derived.WalkSmall
import Derived.Deep.QuietTactic
import Derived.BigQuiet
namespace Go.Proofs.YbulkkswFmt
open Go.RowKit

theorem model_some (b o L C : Nat) (Z : Nat → Int) (q : Int) (w : World) (hL : L ≤ 1024) (hc : ∀ j, j < L → w.cell? ⟨b, o + j, none⟩ = some (.int .i64 (Z j))) :
    Calls Ybaf.prog 6 #[.slice (some ⟨b, o, none⟩) L C, .int .i64 q] w fun e w' => e = .returned (lineOf (fl Z L q)) ∧ w' = w := by
  go_enter Ybaf.func6, Ybaf.ntmps6
  go_wp2
  go_loop [6] (fun i => ∃ k : Nat, k ≤ L ∧ i = .int .i64 k ∧ first Z k q = none) (fun i => L - (intOf i).toNat)
  case atStart => exact ⟨0, Nat.zero_le _, rfl, rfl⟩
  case round =>
    obtain ⟨k, hk, rfl, hf⟩ := hrel
    by_cases hlt : k < L
    · have hck := hc k hlt
      clear hc
      by_cases hq : Z k = q
      · have hfin : Hid (∀ m, k + 1 + m ≤ L → first Z (k + 1 + m) q = some k) := fun m _ => by
          induction m with
          | zero => simp [first, hf, hq]
          | succ m ih => simp [first, ih (by omega)]
        have hb : (Z k == q) = true := by simpa using hq
        clear hq hf
        go_wp2
        go_ret2
        refine ⟨?_, rfl⟩
        have := hfin.out (L - (k + 1)) (by omega)
        rw [show k + 1 + (L - (k + 1)) = L by omega] at this
        rw [show fl Z L q = some ((k : Int) + 1) by simp [fl, this]]
        rfl
      · have hn : Hid (first Z (k + 1) q = none) := by show _ = _; simp [first, hf, hq]
        have hb : (Z k == q) = false := by simpa using hq
        clear hq hf
        go_wp2
        go_round
        case rel => exact ⟨k + 1, by omega, by go_num, hn.out⟩
        case measure => simp [intOf]; omega
    · have e : L = k := by omega
      subst e
      have hn : Hid (first Z L q = none) := hf
      clear hc hf
      go_wp2
      go_ret2
      exact ⟨by rw [show fl Z L q = none by simp [fl, hn.out]]; rfl, rfl⟩

theorem clo (c1 c2 B g i n cap : Nat) (id x : Int) (W : World) (h1 : W.cell? ⟨c1, 0, none⟩ = some (.pointer (some ⟨B, 0, none⟩))) (h2 : W.cell? ⟨c2, 0, none⟩ = some (.int .i64 id)) (h3 : W.cell? ⟨B, 7, none⟩ = some (.slice (some ⟨g, 0, none⟩) n cap)) (hi : i < n) (h4 : W.cell? ⟨g, i * 2, none⟩ = some (.int .i64 x)) (_hn : n ≤ 5000) :
    Calls Ybaf.prog 26 #[.int .i64 i, .pointer (some ⟨c1, 0, none⟩), .pointer (some ⟨c2, 0, none⟩)] W fun e w' => e = .returned (.bool (decide (id ≤ x))) ∧ ∃ q, w' = W.drewN q := by
  have z0 : (0 : Int) ≤ (i : Int) := by omega
  have z1 : (i : Int) < (n : Int) := by omega
  go_enter Ybaf.func26, Ybaf.ntmps26
  go_wp2
  go_quiet (fail)
  go_wp2
  go_ret
  exact ⟨rfl, _, rfl⟩

theorem search (cb : Array Value) (n : Nat) (p : Nat → Bool) (w : World) (hn : n ≤ 5000)
    (hf : ∀ (m i : Nat), i < n → Calls Ybaf.prog 26 (#[.int .i64 i] ++ cb) (w.drewN m) fun e w' => e = .returned (.bool (p i)) ∧ ∃ q, w' = w.drewN q)
    (hmono : ∀ a b, a ≤ b → b < n → p a = true → p b = true) :
    Calls Ybaf.prog 25 #[.int .i64 n, .func (.func 26) #[] cb] w fun e w' => ∃ r q : Nat, e = .returned (.int .i64 r) ∧ w' = w.drewN q ∧ r ≤ n ∧ (∀ t, t < r → p t = false) ∧ (∀ t, r ≤ t → t < n → p t = true) := by
  have HF : Hid (∀ (m i : Nat), i < n → Calls Ybaf.prog 26 (#[.int .i64 i] ++ cb) (w.drewN m) fun e w' => e = .returned (.bool (p i)) ∧ ∃ q, w' = w.drewN q) := hf
  have M : Hid (∀ a b, a ≤ b → b < n → p a = true → p b = true) := hmono
  clear hf hmono
  go_enter Ybaf.func25, Ybaf.ntmps25
  go_wp2
  go_loopw [5, 6] (fun s5 s6 wr => ∃ (lo hi q : Nat), s5 = .int .i64 lo ∧ s6 = .int .i64 hi ∧ lo ≤ hi ∧ hi ≤ n ∧ wr = w.drewN q ∧ Hid ((∀ t, t < lo → p t = false) ∧ (∀ t, hi ≤ t → t < n → p t = true))) (fun s5 s6 _ => (intOf s6).toNat - (intOf s5).toNat)
  case atStart => exact ⟨0, n, 0, rfl, rfl, Nat.zero_le _, Nat.le_refl _, rfl, (⟨fun t ht => absurd ht (Nat.not_lt_zero _), fun t h1 h2 => by omega⟩ : (∀ t, t < 0 → p t = false) ∧ (∀ t, n ≤ t → t < n → p t = true))⟩
  case round =>
    obtain ⟨lo, hi, q, rfl, rfl, hlh, hin, rfl, I⟩ := hrel
    by_cases hlt : lo < hi
    · have hc := HF.out q ((lo + hi) / 2) (by omega)
      rw [show (((lo + hi) / 2 : Nat) : Int) = ((lo : Int) + (hi : Int)) / 2 by omega] at hc
      cases hp : p ((lo + hi) / 2) <;> rw [hp] at hc
      · have HP : Hid (p ((lo + hi) / 2) = false) := hp
        clear hp
        go_wp2_with fail
        refine hc.mono ?_
        rintro e w' ⟨rfl, nq, rfl⟩
        go_wp2
        go_roundw
        case rel =>
          have I2 : Hid ((∀ t, t < (lo + hi) / 2 + 1 → p t = false) ∧ (∀ t, hi ≤ t → t < n → p t = true)) := ⟨fun t ht => (by
            cases h : p t with
            | false => rfl
            | true => have := M.out t ((lo + hi) / 2) (by omega) (by omega) h; rw [HP.out] at this; cases this), I.out.2⟩
          exact ⟨(lo + hi) / 2 + 1, hi, nq, by rw [show ((lo : Int) + (hi : Int)) / 2 + 1 = (((lo + hi) / 2 + 1 : Nat) : Int) by omega], rfl, by omega, hin, rfl, I2⟩
        case measure => simp [intOf]; omega
      · have HP : Hid (p ((lo + hi) / 2) = true) := hp
        clear hp
        go_wp2_with fail
        refine hc.mono ?_
        rintro e w' ⟨rfl, nq, rfl⟩
        go_wp2
        go_roundw
        case rel =>
          have I2 : Hid ((∀ t, t < lo → p t = false) ∧ (∀ t, (lo + hi) / 2 ≤ t → t < n → p t = true)) := ⟨I.out.1, fun t ht htn => M.out ((lo + hi) / 2) t ht htn HP.out⟩
          exact ⟨lo, (lo + hi) / 2, nq, rfl, by rw [show ((lo : Int) + (hi : Int)) / 2 = (((lo + hi) / 2 : Nat) : Int) by omega], by omega, by omega, rfl, I2⟩
        case measure => simp [intOf]; omega
    · have e : hi = lo := by omega
      subst e
      go_wp2
      go_ret
      exact ⟨hi, q, rfl, rfl, hin, I.out.1, I.out.2⟩

theorem model_none (a : Option Addr) (C : Nat) (Z : Nat → Int) (q : Int) (w : World) :
    Calls Ybaf.prog 6 #[.slice a 0 C, .int .i64 q] w fun e w' => e = .returned (lineOf (fl Z 0 q)) ∧ w' = w := by
  go_enter Ybaf.func6, Ybaf.ntmps6
  go_wp2
  go_loop [6] (fun i => i = .int .i64 0) (fun _ => 0)
  case atStart => rfl
  case round =>
    subst hrel
    go_wp2
    go_ret2
    exact ⟨rfl, rfl⟩

/-! ### firstLine: c holds the reader's address, c + 1 the id -/
/-- What the walk knows of the world behind the two boxes. -/
def Box (B c : Nat) (id : Int) (v fv : Value) (fo : Option Int) (W2 : World) : Prop :=
  W2.cell? ⟨c, 0, none⟩ = some (.pointer (some ⟨B, 0, none⟩)) ∧ W2.cell? ⟨c + 1, 0, none⟩ = some (.int .i64 id) ∧ W2.cell? ⟨B, 7, none⟩ = some v ∧ W2.cell? ⟨B, 8, none⟩ = some fv ∧
    ∀ nq, (Instr.lookup 29 fv (.int .i64 id) true).run Ybaf.prog (W2.drewN nq) = .ok (.tuple #[.int .i64 (fo.getD 0), .bool fo.isSome]) (W2.drewN nq)
/-- firstLine's two boxes. -/
def bx (B : Nat) (id : Int) (W : World) : World := (W.alloc (.cells #[.pointer (some ⟨B, 0, none⟩)] 23)).alloc (.cells #[.int .i64 id] 2)
theorem bx_below (B : Nat) (id : Int) (W : World) : Below W.heap.size W (bx B id W) := ((Below.refl _ _).alloc (Nat.le_refl _) _).alloc (by simp) _
theorem below_drew2 {B : Nat} {a w : World} (h : Below B a w) (m n : Nat) : Below B a ((w.drewN m).drewN n) := below_drewN (below_drewN h m) n
theorem below_drew3 {B : Nat} {a w : World} (h : Below B a w) (l m n : Nat) : Below B a (((w.drewN l).drewN m).drewN n) := below_drewN (below_drew2 h l m) n

set_option maxRecDepth 100000 in
/-- The id is in the map. -/
theorem fl_hit (B : Nat) (id l : Int) (v fv : Value) (W : World) (hb : Box B W.heap.size id v fv (some l) (bx B id W)) :
    Calls Ybaf.prog 16 #[.pointer (some ⟨B, 0, none⟩), .int .i64 id] W fun e w' => e = .returned (lineOf (some l)) ∧ Below W.heap.size W w' := by
  obtain ⟨k1, k2, c7, c8, hlk⟩ := hb
  have hB2 := bx_below B id W
  simp only [Option.getD_some, Option.isSome_some] at hlk
  go_enter Ybaf.func16, Ybaf.ntmps16
  go_wp2
  change Code.wp _ _ _ _ (bx B id W)
  generalize bx B id W = W2 at *
  go_quiet (fail)
  go_wp2
  go_ret2
  exact ⟨rfl, below_drewN hB2 _⟩

set_option maxRecDepth 100000 in
/-- It is not, and nothing has risen. -/
theorem fl_empty (B : Nat) (id : Int) (a : Option Addr) (cap : Nat) (fv : Value) (W : World) (hb : Box B W.heap.size id (.slice a 0 cap) fv none (bx B id W)) :
    Calls Ybaf.prog 16 #[.pointer (some ⟨B, 0, none⟩), .int .i64 id] W fun e w' => e = .returned (lineOf none) ∧ Below W.heap.size W w' := by
  obtain ⟨k1, k2, c7, c8, hlk⟩ := hb
  have hB2 := bx_below B id W
  simp only [Option.getD_none, Option.isSome_none] at hlk
  go_enter Ybaf.func16, Ybaf.ntmps16
  go_wp2
  change Code.wp _ _ _ _ (bx B id W)
  generalize bx B id W = W2 at *
  go_quiet (fail)
  go_wp2
  go_quiet (fail)
  go_wp2
  go_ret2
  exact ⟨rfl, below_drew2 hB2 _ _⟩

set_option maxRecDepth 100000 in
/-- It is not, and it stands above all that have risen. -/
theorem fl_above (B g q cap : Nat) (id x : Int) (fv : Value) (W : World) (hq : q ≤ 2000) (hx : x < id) (hb : Box B W.heap.size id (.slice (some ⟨g, 0, none⟩) (q + 1) cap) fv none (bx B id W)) (d : (bx B id W).cell? ⟨g, q * 2, none⟩ = some (.int .i64 x)) :
    Calls Ybaf.prog 16 #[.pointer (some ⟨B, 0, none⟩), .int .i64 id] W fun e w' => e = .returned (lineOf none) ∧ Below W.heap.size W w' := by
  obtain ⟨k1, k2, c7, c8, hlk⟩ := hb
  have hB2 := bx_below B id W
  simp only [Option.getD_none, Option.isSome_none] at hlk
  have z0 : (((q : Int) + 1) == 0) = false := by simp; omega
  have z1 : decide (x < id) = true := by simpa using hx
  have z2 : (0 : Int) ≤ (q : Int) := by omega
  have z3 : (q : Int) < (q : Int) + 1 := by omega
  go_enter Ybaf.func16, Ybaf.ntmps16
  go_wp2
  change Code.wp _ _ _ _ (bx B id W)
  generalize bx B id W = W2 at *
  go_quiet (fail)
  go_wp2
  go_quiet (fail)
  go_wp2
  go_ret2
  exact ⟨rfl, below_drew2 hB2 _ _⟩

set_option maxRecDepth 100000 in
/-- It is not; the search says where it would stand. -/
theorem fl_search (B g q cap : Nat) (id x : Int) (out : Option Int) (Pr : Nat → Prop) (fv : Value) (W : World) (hq : q ≤ 2000) (hx : ¬ x < id) (hb : Box B W.heap.size id (.slice (some ⟨g, 0, none⟩) (q + 1) cap) fv none (bx B id W)) (d : (bx B id W).cell? ⟨g, q * 2, none⟩ = some (.int .i64 x))
    (he : ∀ r, Pr r → ∃ y l, r ≤ q ∧ (bx B id W).cell? ⟨g, r * 2, none⟩ = some (.int .i64 y) ∧ (bx B id W).cell? ⟨g, r * 2 + 1, none⟩ = some (.int .i64 l) ∧ out = if y = id then some l else none)
    (hs : ∀ m, Calls Ybaf.prog 25 #[.int .i64 ((q + 1 : Nat) : Int), .func (.func 26) #[] #[.pointer (some ⟨W.heap.size, 0, none⟩), .pointer (some ⟨W.heap.size + 1, 0, none⟩)]] ((bx B id W).drewN m) fun e w' => ∃ r q : Nat, e = .returned (.int .i64 r) ∧ w' = ((bx B id W).drewN m).drewN q ∧ Pr r) :
    Calls Ybaf.prog 16 #[.pointer (some ⟨B, 0, none⟩), .int .i64 id] W fun e w' => e = .returned (lineOf out) ∧ Below W.heap.size W w' := by
  obtain ⟨k1, k2, c7, c8, hlk⟩ := hb
  have hB2 := bx_below B id W
  simp only [Option.getD_none, Option.isSome_none] at hlk
  rw [show ((q + 1 : Nat) : Int) = (q : Int) + 1 by omega] at hs
  have z0 : (((q : Int) + 1) == 0) = false := by simp; omega
  have z1 : decide (x < id) = false := by simpa using hx
  have z2 : (0 : Int) ≤ (q : Int) := by omega
  have z3 : (q : Int) < (q : Int) + 1 := by omega
  have hmf : ∀ (fn : Fn) (first cap : Array Value) (w : World), (Instr.makeFunc fn first cap).run Ybaf.prog w = .ok (.func fn first cap) w := fun _ _ _ _ => rfl
  go_enter Ybaf.func16, Ybaf.ntmps16
  go_wp2
  change Code.wp _ _ _ _ (bx B id W)
  generalize bx B id W = W2 at *
  have HE : Hid (∀ r, Pr r → ∃ y l, r ≤ q ∧ W2.cell? ⟨g, r * 2, none⟩ = some (.int .i64 y) ∧ W2.cell? ⟨g, r * 2 + 1, none⟩ = some (.int .i64 l) ∧ out = if y = id then some l else none) := he
  clear he
  go_quiet (fail)
  go_wp2
  go_quiet (fail)
  go_wp2_with fail
  refine (hs _).mono ?_
  rintro e w' ⟨r, m, rfl, rfl, hP⟩
  obtain ⟨y, l, hr, e0, e1, ho⟩ := HE.out r hP
  have z4 : (0 : Int) ≤ (r : Int) := by omega
  have z5 : (r : Int) < (q : Int) + 1 := by omega
  clear hs HE hP
  by_cases hy : y = id
  · rw [if_pos hy] at ho
    have zy : (y != id) = false := by simp [hy]
    have HO : Hid (out = some l) := ho
    clear hy ho
    go_wp2
    go_quiet (fail)
    go_wp2
    go_ret2
    exact ⟨by rw [HO.out]; rfl, by first | exact below_drew3 hB2 _ _ _ | exact below_drew2 hB2 _ _ | exact below_drewN hB2 _⟩
  · rw [if_neg hy] at ho
    have zy : (y != id) = true := by simpa using hy
    have HO : Hid (out = none) := ho
    clear hy ho
    go_wp2
    go_quiet (fail)
    go_wp2
    go_ret2
    exact ⟨by rw [HO.out]; rfl, by first | exact below_drew3 hB2 _ _ _ | exact below_drew2 hB2 _ _ | exact below_drewN hB2 _⟩

theorem get_getD {α : Type} {l : List α} {i : Nat} (h : i < l.length) (d : α) : l[i]? = some (l.getD i d) := by simp [List.getD, h]
theorem box_of {w W : World} {B k : Nat} {ln : Int} {v fv : Value} {rs : List (Int × Int)} {fm : Int → Option Int} (h : St w B k ln v fv rs fm W) {id : Int} (hid : (Lit.int .i64 id).wf = true) : Box B W.heap.size id v fv (fm id) (bx B id W) := by
  have hb := bx_below B id W
  obtain ⟨hr, ho, hf, _⟩ := st_kept h hb
  refine ⟨?_, ?_, hr.cell (i := 7) (by omega), hr.cell (i := 8) (by omega), fun nq => fal_look hf hid nq⟩
  · unfold bx
    rw [World.cell?_alloc_lt _ _ _ (by simp), World.cell?_alloc_new]
    rfl
  · have := World.cell?_alloc_new (W.alloc (.cells #[.pointer (some ⟨B, 0, none⟩)] 23)) #[.int .i64 id] 2 0
    rw [World.size_alloc] at this
    exact this

/-- The cells of what has risen. -/
theorem rising_cells {w W : World} {B k : Nat} {ln : Int} {v fv : Value} {rs : List (Int × Int)} {fm : Int → Option Int} (h : St w B k ln v fv rs fm W) (hne : rs ≠ []) :
    ∃ g cap, v = .slice (some ⟨g, 0, none⟩) rs.length cap ∧ ∀ i r, rs[i]? = some r → W.cell? ⟨g, i * 2, none⟩ = some (.int .i64 r.1) ∧ W.cell? ⟨g, i * 2 + 1, none⟩ = some (.int .i64 r.2) := by
  obtain ⟨_, ho, _⟩ := h
  rcases ho.2 with ⟨_, h0⟩ | ⟨g, cap, cur, rfl, _⟩
  · exact absurd (List.eq_nil_of_length_eq_zero h0) hne
  · refine ⟨g, cap, rfl, fun i r hr => ⟨?_, ?_⟩⟩
    · have := ho.cells (g := g) rfl _ _ (flat2_get0 rs i r hr)
      rw [Go.WideShapes.add_plain, Nat.zero_add] at this
      exact this
    · have := ho.cells (g := g) rfl _ _ (flat2_get1 rs i r hr)
      rw [Go.WideShapes.add_plain, Nat.zero_add] at this
      exact this

/-- FIRSTLINE: what was recorded, whether in the map or among those that have risen; nothing old turns. -/
theorem firstLine_any {w W : World} {B k : Nat} {ln : Int} {v fv : Value} {rs : List (Int × Int)} {fm : Int → Option Int} (h : St w B k ln v fv rs fm W) (hk : k ≤ 1024) {id : Int} (hid : (Lit.int .i64 id).wf = true) :
    Calls Ybaf.prog 16 #[.pointer (some ⟨B, 0, none⟩), .int .i64 id] W fun e w' => e = .returned (lineOf (comb fm rs id)) ∧ Below W.heap.size W w' := by
  have hb := bx_below B id W
  have hbox := box_of h hid
  have h2 := st_kept h hb
  cases hf : fm id with
  | some l =>
    rw [show comb fm rs id = some l by simp [comb, hf]]
    rw [hf] at hbox
    exact fl_hit B id l v fv W hbox
  | none =>
    rw [show comb fm rs id = find rs id by simp [comb, hf]]
    rw [hf] at hbox
    by_cases hne : rs = []
    · subst hne
      obtain ⟨_, ho, _⟩ := h
      have hv : ∃ a cap, v = .slice a 0 cap := by
        rcases ho.2 with ⟨rfl, _⟩ | ⟨g, cap, cur, rfl, _⟩
        · exact ⟨_, _, rfl⟩
        · exact ⟨_, _, rfl⟩
      obtain ⟨a, cap, rfl⟩ := hv
      exact fl_empty B id a cap fv W hbox
    · obtain ⟨g, cap, rfl, hcell⟩ := rising_cells h2 hne
      obtain ⟨init, r, rfl⟩ : ∃ init r, rs = init ++ [r] := by
        rcases List.eq_nil_or_concat rs with e | ⟨init, r, e⟩
        · exact absurd e hne
        · exact ⟨init, r, by simpa using e⟩
      obtain ⟨_, _, _, hs, hl, _⟩ := h
      have hl1 : (init ++ [r]).length = init.length + 1 := by simp
      rw [hl1] at hbox hl
      have hlast := rise_last hs
      have hcl := (hcell init.length r (by simp)).1
      by_cases hx : r.1 < id
      · rw [find_none (fun x hx' => by have := hlast x hx'; omega)]
        exact fl_above B g init.length cap id r.1 fv W (by omega) hx hbox hcl
      · refine fl_search B g init.length cap id r.1 _ (fun rr => rr ≤ init.length + 1 ∧ (∀ t, t < rr → decide (id ≤ ((init ++ [r]).getD t (0, 0)).1) = false) ∧ (∀ t, rr ≤ t → t < init.length + 1 → decide (id ≤ ((init ++ [r]).getD t (0, 0)).1) = true)) fv W (by omega) hx hbox hcl (fun rr hP => ?_) (fun m => ?_)
        · obtain ⟨p1, p2, p3⟩ := hP
          have hrr : rr ≤ init.length := by
            rcases Nat.lt_or_ge init.length rr with hlt | hge
            · have := p2 init.length hlt
              have e : (init ++ [r]).getD init.length (0, 0) = r := by simp [List.getD]
              rw [e] at this
              simp at this
              omega
            · exact hge
          have hg := get_getD (l := init ++ [r]) (i := rr) (by omega) (0, 0)
          generalize (init ++ [r]).getD rr (0, 0) = a at hg
          refine ⟨a.1, a.2, hrr, (hcell rr a hg).1, (hcell rr a hg).2, find_search hs hg (fun t b ht hb' => ?_) ?_⟩
          · have := p2 t ht
            rw [show (init ++ [r]).getD t (0, 0) = b by simp only [List.getD, hb']; rfl] at this
            simp at this
            exact this
          · have := p3 rr (Nat.le_refl _) (by omega)
            rw [show (init ++ [r]).getD rr (0, 0) = a by simp only [List.getD, hg]; rfl] at this
            simpa using this
        · refine (search #[.pointer (some ⟨W.heap.size, 0, none⟩), .pointer (some ⟨W.heap.size + 1, 0, none⟩)] (init.length + 1) (fun t => decide (id ≤ ((init ++ [r]).getD t (0, 0)).1)) ((bx B id W).drewN m) (by omega) (fun m' i hi => ?_) (fun a b hab hbn hp => ?_)).mono ?_
          · refine (clo W.heap.size (W.heap.size + 1) B g i (init.length + 1) cap id _ (((bx B id W).drewN m).drewN m') hbox.1 hbox.2.1 hbox.2.2.1 hi (hcell i _ (get_getD (by omega) (0, 0))).1 (by omega)).mono ?_
            rintro e w' ⟨rfl, q, rfl⟩
            exact ⟨rfl, m' + q, World.drewN_drewN _ _ _⟩
          · rcases Nat.lt_or_ge a b with hlt | hge
            · have := rise_at hs hlt (get_getD (l := init ++ [r]) (i := a) (by omega) (0, 0)) (get_getD (l := init ++ [r]) (i := b) (by omega) (0, 0))
              simp only [decide_eq_true_eq] at hp ⊢
              omega
            · rw [show b = a by omega]; exact hp
          · rintro e w' ⟨rr, q, rfl, rfl, p1, p2, p3⟩
            exact ⟨rr, q, rfl, rfl, p1, p2, p3⟩
end Go.Proofs.YbulkkswFmt
