/-
  The walks of LawS0568CExact (4) and its callees: math.Abs (12), roundOff (11), zzs0568cwant (9), zzs0568ceq (8), powerRounding (7).
-/
import Derived.Test.YbulkkswRows
import Derived.Test.YbulkkswFloat
import Derived.WalkKit
import Derived.WalkLawsBesides
import Derived.WalkSpells
import Derived.WalkSmall
namespace Go.Proofs.Ybulkksw
open Go.RowKit

/-- A float stored into a cell (the kit has this law of every other one-cell kind). -/
theorem run_store_float (P : Program) (w : World) (a : Addr) (m : Mode) (k : FloatKind) (b : Nat) : (store a (.float k b) m).run P w = stored P w a (.float k b) m := run_store P w a _ m rfl
attribute [local go_sem] run_store_float

theorem bits_any (p : Nat) (w : World) : (callFunc 16 #[.float .f64 p]).run Yba.prog w = .ok (.value (.int .u64 p)) w := by kernel_rfl
theorem frombits_any (p : Int) (w : World) : (callFunc 15 #[.int .u64 p]).run Yba.prog w = .ok (.value (.float .f64 p.toNat)) w := by kernel_rfl
/-- math.Abs on the bits: the sign bit is struck. -/
def ab (p : Nat) : Nat := (bits .andNot .u64 (p : Int) 9223372036854775808).toNat
theorem abs_any (p : Nat) (w : World) : Calls Yba.prog 12 #[.float .f64 p] w fun e w' => e = .returned (.float .f64 (ab p)) ∧ w' = w := by
  have h1 := bits_any
  have h2 := frombits_any
  go_enter Yba.func12, Yba.ntmps12
  go_wp2
  go_ret
  exact ⟨rfl, rfl⟩

/-- What one rounding of p is, each operation in a world of its own. -/
def ro (p : Nat) (w1 w2 : World) : Nat := fr .add (fr .mul (ab p) 4372995238176751616 w1) 1 w2
theorem same_ro (p : Nat) (w1 w2 v1 v2 : World) : Same (ro p w1 w2) (ro p v1 v2) := same_op (.inr rfl) (same_op (.inl rfl) (same_refl _) (same_refl _) _ _) (same_refl _) _ _

theorem roundOff_any (p : Nat) (w : World) : Calls Yba.prog 11 #[.float .f64 p] w fun e w' => ∃ w1 w2 n, e = .returned (.float .f64 (ro p w1 w2)) ∧ w' = w.drewN n := by
  have hm := run_mul (P := Yba.prog) 40
  have ha := run_add (P := Yba.prog) 40
  go_enter Yba.func11, Yba.ntmps11
  go_wp2_with (go_at_call 12; refine (abs_any p _).mono ?_; rintro e w' ⟨rfl, rfl⟩)
  go_ret
  exact ⟨_, _, _, rfl, rfl⟩

/-- The rounding that both texts name: of a dropped power; of a kept one. -/
def Rnd (pw p t r : Nat) : Prop :=
  ((FloatKind.f64.format.order pw 0 == some .eq) = true ∧ ∃ w1, r = fr .mul t 288230376151711744 w1) ∨
  ((FloatKind.f64.format.order pw 0 == some .eq) = false ∧ ∃ w1 w2 w3, r = fr .mul 4611686018427387904 (ro p w1 w2) w3)
theorem same_rnd {pw p t r s : Nat} (h : Rnd pw p t r) (k : Rnd pw p t s) : Same r s := by
  rcases h with ⟨h, w1, rfl⟩ | ⟨h, w1, w2, w3, rfl⟩
  · rcases k with ⟨_, v1, rfl⟩ | ⟨k, _⟩
    · exact same_op (.inl rfl) (same_refl _) (same_refl _) _ _
    · rw [h] at k; cases k
  · rcases k with ⟨k, _⟩ | ⟨_, v1, v2, v3, rfl⟩
    · rw [h] at k; cases k
    · exact same_op (.inl rfl) (same_refl _) (same_ro p w1 w2 v1 v2) _ _

theorem want_any (pw p t : Nat) (w : World) : Calls Yba.prog 9 #[.float .f64 pw, .float .f64 p, .float .f64 t] w fun e w' => ∃ r n, e = .returned (.float .f64 r) ∧ Rnd pw p t r ∧ w' = w.drewN n := by
  have hm := run_mul (P := Yba.prog) 40
  have ha := run_add (P := Yba.prog) 40
  by_cases h : (FloatKind.f64.format.order pw 0 == some .eq) = true
  · go_enter Yba.func9, Yba.ntmps9
    go_wp2
    go_ret
    exact ⟨_, _, rfl, .inl ⟨h, _, rfl⟩, rfl⟩
  · have h' : (FloatKind.f64.format.order pw 0 == some .eq) = false := by simpa using h
    clear h
    go_enter Yba.func9, Yba.ntmps9
    go_wp2_with (go_at_call 12; refine (abs_any p _).mono ?_; rintro e w' ⟨rfl, rfl⟩)
    go_ret
    exact ⟨_, _, rfl, .inr ⟨h', _, _, _, rfl⟩, rfl⟩

/-- zzs0568ceq on two that are the same. -/
theorem ceq_any (x y : Nat) (w : World) (h : Same x y) : Calls Yba.prog 8 #[.float .f64 x, .float .f64 y] w fun e w' => e = .returned (.bool true) ∧ w' = w := by
  by_cases hx : (FloatKind.f64.format.order x x != some .eq) = true
  · have hy : (FloatKind.f64.format.order y y != some .eq) = true := by
      rcases h with rfl | ⟨_, h2⟩
      · exact hx
      · rw [order_nan y h2]; rfl
    go_enter Yba.func8, Yba.ntmps8
    go_wp2
    go_ret
    exact ⟨rfl, rfl⟩
  · have hx' : (FloatKind.f64.format.order x x != some .eq) = false := by simpa using hx
    rcases h with rfl | ⟨h1, _⟩
    · have he : (FloatKind.f64.format.order x x == some .eq) = true := by simpa [bne] using hx'
      clear hx
      go_enter Yba.func8, Yba.ntmps8
      go_wp2
      go_ret
      exact ⟨rfl, rfl⟩
    · rw [order_nan x h1] at hx'
      cases hx'

/-- powerRounding on a Cluster whose powers came in. -/
theorem power_any (b o L C n : Nat) (k : Nat) (pw p t : Nat) (w : World) (hk : k < L) (_hL : L ≤ 1024) (hb : b < w.heap.size) (c : w.cell? ⟨b, o + k, none⟩ = some (.float .f64 pw)) :
    Calls Yba.prog 7 #[.agg #[.int .i64 n, .float .f64 0, .float .f64 0, .float .f64 0, .slice none 0 0, .slice (some ⟨b, o, none⟩) L C], .float .f64 p, .float .f64 t, .int .i64 k] w fun e w' =>
      ∃ r, e = .returned (.float .f64 r) ∧ Rnd pw p t r ∧ ∃ m, w' = (w.alloc (.cells #[.int .i64 n, .float .f64 0, .float .f64 0, .float .f64 0, .slice none 0 0, .slice (some ⟨b, o, none⟩) L C] 42)).drewN m := by
  have hm := run_mul (P := Yba.prog) 40
  by_cases h : (FloatKind.f64.format.order pw 0 == some .eq) = true
  · go_enter Yba.func7, Yba.ntmps7
    go_wp2
    go_ret
    exact ⟨_, rfl, .inl ⟨h, _, rfl⟩, _, rfl⟩
  · have h' : (FloatKind.f64.format.order pw 0 == some .eq) = false := by simpa using h
    clear h
    go_enter Yba.func7, Yba.ntmps7
    go_wp2_with (go_at_call 11; refine (roundOff_any p _).mono ?_; rintro e w' ⟨w1, w2, n, rfl, rfl⟩)
    go_ret
    exact ⟨_, rfl, .inr ⟨h', _, _, _, rfl⟩, _, rfl⟩

set_option maxRecDepth 100000 in
/-- THE LAW where there are powers. -/
theorem exact_some (b o L C k p t : Nat) (F : Nat → Nat) (w : World) (hL0 : 0 < L) (hL : L ≤ 1024) (hk : k ≤ 65535) (hc : ∀ j, j < L → w.cell? ⟨b, o + j, none⟩ = some (.float .f64 (F j))) :
    Calls Yba.prog 4 #[.slice (some ⟨b, o, none⟩) L C, .int .u16 k, .float .f64 p, .float .f64 t] w fun e w' => e = .returned (.bool true) ∧ Below w.heap.size w w' := by
  have hb : b < w.heap.size := World.block_lt_of_cell? _ _ (hc 0 hL0)
  obtain ⟨m, hm⟩ : ∃ m, m = k % L := ⟨_, rfl⟩
  have hmod : m < L := by rw [hm]; exact Nat.mod_lt _ hL0
  have hkm : (k : Int) % (L : Int) = (m : Int) := by rw [hm]; omega
  have z0 : ((L : Int) == 0) = false := by simp; omega
  have z1 : decide (1024 < (L : Int)) = false := by simp; omega
  have hci : (w.alloc (.cells #[.int .i64 L, .float .f64 0, .float .f64 0, .float .f64 0, .slice none 0 0, .slice (some ⟨b, o, none⟩) L C] 42)).cell? ⟨b, o + m, none⟩ = some (.float .f64 (F m)) := by
    rw [World.cell?_alloc_lt _ _ _ hb]
    exact hc _ hmod
  have hpow := power_any b o L C L m (F m) p t (w.alloc (.cells #[.int .i64 L, .float .f64 0, .float .f64 0, .float .f64 0, .slice none 0 0, .slice (some ⟨b, o, none⟩) L C] 42)) hmod hL (by simp; omega) hci
  have hcm := hc m hmod
  have hB : Below w.heap.size w ((w.alloc (.cells #[.int .i64 L, .float .f64 0, .float .f64 0, .float .f64 0, .slice none 0 0, .slice (some ⟨b, o, none⟩) L C] 42)).alloc (.cells #[.int .i64 L, .float .f64 0, .float .f64 0, .float .f64 0, .slice none 0 0, .slice (some ⟨b, o, none⟩) L C] 42)) :=
    ((Below.refl _ _).alloc (Nat.le_refl _) _).alloc (by simp) _
  clear hm hci hc
  go_enter Yba.func4, Yba.ntmps4
  go_wp2_with fail
  refine hpow.mono ?_
  rintro e w' ⟨r, rfl, hr, q, rfl⟩
  go_wp2_with fail
  refine (want_any (F m) p t _).mono ?_
  rintro e w' ⟨r2, n2, rfl, hr2, rfl⟩
  go_wp2_with fail
  refine (ceq_any r r2 _ (same_rnd hr hr2)).mono ?_
  rintro e w' ⟨rfl, rfl⟩
  go_wp2
  go_ret
  exact ⟨rfl, below_drewN hB _⟩

/-- No power, or too many: true at once. -/
theorem exact_none (a : Option Addr) (L C k p t : Nat) (w : World) (h : L = 0 ∨ 1024 < L) :
    Calls Yba.prog 4 #[.slice a L C, .int .u16 k, .float .f64 p, .float .f64 t] w fun e w' => e = .returned (.bool true) ∧ Below w.heap.size w w' := by
  rcases h with rfl | h
  · go_enter Yba.func4, Yba.ntmps4
    go_wp2
    go_ret
    exact ⟨rfl, Below.refl _ _⟩
  · have z0 : ((L : Int) == 0) = false := by simp; omega
    have z1 : decide (1024 < (L : Int)) = true := by simp; omega
    go_enter Yba.func4, Yba.ntmps4
    go_wp2
    go_ret
    exact ⟨rfl, Below.refl _ _⟩
end Go.Proofs.Ybulkksw
