/-
  The walks of the small functions on float64.
-/
import Derived.Test.Qxb6621747aProg
import Derived.Test.Qxb6621747aCen
import Derived.WalkKit
import Derived.ProofKit
import Derived.WalkLawsBesides
import Derived.BigQuiet
import Derived.Deep.QuietTactic
import Derived.Deep.RegionWith
import Derived.Deep.OwnRows
import Derived.Deep.LoopGhost
import Derived.WalkSpells
namespace Go.Proofs.Qxb6621747a.Wk
open Go.RowKit
open Fp
set_option linter.unusedVariables false

/-- the model's order on float64, behind a name -/
abbrev ord (x y : Nat) : Option Ordering := FloatKind.f64.format.order x y

theorem abs_pos (x : Nat) (h : (FloatKind.f64.format.order x 0 == some Ordering.lt) = false) (w : World) :
    Calls Try.prog 12 #[.float .f64 x] w fun e w' => e = .returned (.float .f64 x) ∧ w' = w := by
  go_enter Try.func12, Try.ntmps12
  go_wp2
  go_ret
  exact ⟨rfl, rfl⟩
theorem neg_eq (x : Nat) (hx : x < 18446744073709551616) : Op.negFloat .f64 x = word (!sg x) (rg x) := by
  show x ^^^ 2 ^ 63 = word (!sg x) (rg x)
  have e1 : (x ^^^ 2 ^ 63) % 2 ^ 63 = x % 2 ^ 63 := by rw [Nat.xor_mod_two_pow]; simp
  have e2 : (x ^^^ 2 ^ 63) / 2 ^ 63 = x / 2 ^ 63 ^^^ 1 := by rw [Nat.xor_div_two_pow]
  have e3 := Nat.div_add_mod (x ^^^ 2 ^ 63) (2 ^ 63)
  rw [e1, e2] at e3
  unfold word sg rg
  by_cases h1 : x < 9223372036854775808
  · have e4 : x / 2 ^ 63 = 0 := Nat.div_eq_of_lt (by omega)
    have e5 : x / 9223372036854775808 = 0 := e4
    rw [e4] at e3
    rw [e5, ← e3]
    simp
  · have e4 : x / 2 ^ 63 = 1 := by omega
    have e5 : x / 9223372036854775808 = 1 := e4
    rw [e4] at e3
    rw [e5, ← e3]
    simp
theorem abs_neg (x : Nat) (h : (FloatKind.f64.format.order x 0 == some Ordering.lt) = true) (w : World) :
    Calls Try.prog 12 #[.float .f64 x] w fun e w' => e = .returned (.float .f64 (Op.negFloat .f64 x)) ∧ w' = w := by
  have hneg : ∀ w, Sem.run Try.prog (Op.unary .neg (.float .f64 x)) w = .ok (.float .f64 (Op.negFloat .f64 x)) w := fun _ => rfl
  go_enter Try.func12, Try.ntmps12
  go_wp2
  go_ret
  exact ⟨rfl, rfl⟩

def ZERO : Nat := 0
theorem fin_zero : Fp.Fin 0 := by unfold Fp.Fin; decide
theorem fmt : FloatKind.f64.format = Ieee.double := rfl
theorem cmp_lt {x y : Int} : (some (compare x y) == some Ordering.lt) = decide (x < y) := by
  simp only [compare, compareOfLessAndEq]
  by_cases h : x < y
  · simp [h]
  · by_cases h2 : x = y
    · simp [h2]
    · simp [h, h2]
theorem cmp_eq {x y : Int} : (some (compare x y) == some Ordering.eq) = decide (x = y) := by
  simp only [compare, compareOfLessAndEq]
  by_cases h : x < y
  · have : ¬ x = y := by omega
    simp [h, this]
  · by_cases h2 : x = y
    · simp [h2]
    · simp [h, h2]
theorem cmp_gt {x y : Int} : (some (compare x y) == some Ordering.gt) = decide (y < x) := by
  simp only [compare, compareOfLessAndEq]
  by_cases h : x < y
  · have : ¬ y < x := by omega
    simp [h, this]
  · by_cases h2 : x = y
    · have : ¬ y < x := by omega
      simp [h2]
    · have : y < x := by omega
      simp [h, h2, this]
theorem cmp_le {x y : Int} : (some (compare x y) == some Ordering.lt || some (compare x y) == some Ordering.eq) = decide (x ≤ y) := by
  rw [cmp_lt, cmp_eq]
  by_cases h : x ≤ y
  · have : x < y ∨ x = y := by omega
    rcases this with h2 | h2
    · simp [h, h2]
    · simp [h2]
  · have h1 : ¬ x < y := by omega
    have h2 : ¬ x = y := by omega
    simp [h, h1, h2]
theorem cmp_ge {x y : Int} : (some (compare x y) == some Ordering.gt || some (compare x y) == some Ordering.eq) = decide (y ≤ x) := by
  rw [cmp_gt, cmp_eq]
  by_cases h : y ≤ x
  · have : y < x ∨ x = y := by omega
    rcases this with h2 | h2
    · simp [h, h2]
    · simp [h2]
  · have h1 : ¬ y < x := by omega
    have h2 : ¬ x = y := by omega
    simp [h, h1, h2]

theorem fin_ceil : Fp.Fin CEIL := by unfold Fp.Fin; decide
theorem sv_zero : sv 0 = 0 := by decide
theorem rg_ceil : rg CEIL = CEIL := by decide
theorem sg_ceil : sg CEIL = false := by decide
theorem sv_ceil : sv CEIL = (dv CEIL : Int) := by unfold sv; rw [rg_ceil, sg_ceil]; rfl
theorem dv_le_iff {R S : Nat} : dv R ≤ dv S ↔ R ≤ S := ⟨fun h => by
  refine Nat.le_of_not_lt fun h2 => ?_
  have h3 := dv_mono (Nat.le_of_lt h2)
  have := dv_inj (Nat.le_antisymm h h3)
  omega, dv_mono⟩

/-- zzCentreSmall of a finite number -/
theorem small (x : Nat) (hx : x < 18446744073709551616) (hf : Fp.Fin x) (v : Bool) (hv : rg x ≤ CEIL ↔ v = true) (w : World) :
    Calls Try.prog 10 #[.float .f64 x] w fun e w' => e = .returned (.bool v) ∧ w' = w := by
  have key : ∀ y, Fp.Fin y → sv y = (dv (rg x) : Int) → (FloatKind.f64.format.order y 9209861237972664320 == some Ordering.lt || FloatKind.f64.format.order y 9209861237972664320 == some Ordering.eq) = v := by
    intro y hy hs
    have h1 : FloatKind.f64.format.order y 9209861237972664320 = some (compare (sv y) (sv CEIL)) := order_fin hy fin_ceil
    rw [h1, cmp_le, hs, sv_ceil, Bool.eq_iff_iff, decide_eq_true_iff, ← hv, ← dv_le_iff]
    omega
  have h0 : FloatKind.f64.format.order x 0 = some (compare (sv x) (sv 0)) := order_fin hf fin_zero
  have h1 : (FloatKind.f64.format.order x 0 == some Ordering.lt) = decide (sv x < 0) := by rw [h0, cmp_lt, sv_zero]
  by_cases hn : sv x < 0
  · have h2 : (FloatKind.f64.format.order x 0 == some Ordering.lt) = true := by rw [h1]; simp [hn]
    have hr : rg x < 9223372036854775808 := Nat.lt_trans hf inf_lt
    have hk : (FloatKind.f64.format.order (Op.negFloat .f64 x) 9209861237972664320 == some Ordering.lt || FloatKind.f64.format.order (Op.negFloat .f64 x) 9209861237972664320 == some Ordering.eq) = v := by
      refine key _ ?_ ?_
      · rw [neg_eq x hx]; exact fin_word _ _ hf
      · rw [neg_eq x hx, sv_word _ _ hr]
        rcases sv_cases x with ⟨h3, h4⟩ | ⟨h3, h4⟩
        · omega
        · rw [h3]; simp
    clear h0 h1 key
    go_enter Try.func10, Try.ntmps10
    go_wp2_with (go_at_call 12; refine (abs_neg _ h2 _).mono ?_; rintro e w' ⟨rfl, rfl⟩)
    go_ret
    exact ⟨rfl, rfl⟩
  · have h2 : (FloatKind.f64.format.order x 0 == some Ordering.lt) = false := by rw [h1]; simp [hn]
    have hk := key x hf (by
      rcases sv_cases x with ⟨h3, h4⟩ | ⟨h3, h4⟩
      · exact h4
      · omega)
    clear h0 h1 key
    go_enter Try.func10, Try.ntmps10
    go_wp2_with (go_at_call 12; refine (abs_pos _ h2 _).mono ?_; rintro e w' ⟨rfl, rfl⟩)
    go_ret
    exact ⟨rfl, rfl⟩

theorem ret_bool {a b : Bool} (h : a = b) : Ending.returned (.bool a) = .returned (.bool b) := by rw [h]

/-- zzCentreHalvesExactly, the tests given -/
theorem halves_zero (x : Nat) (h : (FloatKind.f64.format.order x 0 == some Ordering.eq) = true) (w : World) :
    Calls Try.prog 8 #[.float .f64 x] w fun e w' => e = .returned (.bool true) ∧ w' = w := by
  go_enter Try.func8, Try.ntmps8
  go_wp2
  go_ret
  exact ⟨rfl, rfl⟩
theorem halves_walk (x y : Nat) (h : (FloatKind.f64.format.order x 0 == some Ordering.eq) = false) (hab : Hid (∀ w, Calls Try.prog 12 #[.float .f64 x] w fun e w' => e = .returned (.float .f64 y) ∧ w' = w)) (g l v : Bool)
    (hg : (FloatKind.f64.format.order y 9007199254740992 == some Ordering.gt || FloatKind.f64.format.order y 9007199254740992 == some Ordering.eq) = g) (hl : (FloatKind.f64.format.order y 9209861237972664320 == some Ordering.lt || FloatKind.f64.format.order y 9209861237972664320 == some Ordering.eq) = l)
    (hv : Hid ((g && l) = v)) (w : World) :
    Calls Try.prog 8 #[.float .f64 x] w fun e w' => e = .returned (.bool v) ∧ w' = w := by
  cases g
  · go_enter Try.func8, Try.ntmps8
    go_wp2_with (go_at_call 12; refine (hab.out _).mono ?_; rintro e w' ⟨rfl, rfl⟩)
    go_ret
    exact ⟨ret_bool hv.out, rfl⟩
  · go_enter Try.func8, Try.ntmps8
    go_wp2_with (go_at_call 12; refine (hab.out _).mono ?_; rintro e w' ⟨rfl, rfl⟩)
    go_ret
    exact ⟨ret_bool (by simpa using hv.out), rfl⟩

def FLOOR : Nat := 9007199254740992
theorem fin_floor : Fp.Fin FLOOR := by unfold Fp.Fin; decide
theorem rg_floor : rg FLOOR = 2 * B52 := by decide
theorem sg_floor : sg FLOOR = false := by decide
theorem sv_floor : sv FLOOR = (dv (2 * B52) : Int) := by unfold sv; rw [rg_floor, sg_floor]; rfl
theorem sv_zero_iff (x : Nat) : sv x = 0 ↔ rg x = 0 := by
  have h := sv_abs x
  constructor
  · intro e; rw [e] at h; simp at h; exact dv_inj (by rw [← h, dv_zero])
  · intro e; rw [e, dv_zero] at h; omega

theorem halves (x : Nat) (hx : x < 18446744073709551616) (v : Bool) (hv : Halv x ↔ v = true) (w : World) :
    Calls Try.prog 8 #[.float .f64 x] w fun e w' => e = .returned (.bool v) ∧ w' = w := by
  rcases fin_or x with hf | hf | hf
  · have h0 : FloatKind.f64.format.order x 0 = some (compare (sv x) (sv 0)) := order_fin hf fin_zero
    by_cases hz : rg x = 0
    · have e : v = true := hv.1 (.inl hz)
      subst e
      exact halves_zero x (by rw [h0, cmp_eq, sv_zero]; simp [(sv_zero_iff x).2 hz]) w
    · have hr : rg x < 9223372036854775808 := Nat.lt_trans hf inf_lt
      have hz' : ¬ sv x = 0 := fun h => hz ((sv_zero_iff x).1 h)
      have key : ∀ y, Fp.Fin y → sv y = (dv (rg x) : Int) → (∀ w, Calls Try.prog 12 #[.float .f64 x] w fun e w' => e = .returned (.float .f64 y) ∧ w' = w) →
          Calls Try.prog 8 #[.float .f64 x] w fun e w' => e = .returned (.bool v) ∧ w' = w := by
        intro y hy hs hc
        have h1 : FloatKind.f64.format.order y 9007199254740992 = some (compare (sv y) (sv FLOOR)) := order_fin hy fin_floor
        have h2 : FloatKind.f64.format.order y 9209861237972664320 = some (compare (sv y) (sv CEIL)) := order_fin hy fin_ceil
        refine halves_walk x y (by rw [h0, cmp_eq, sv_zero]; simp [hz']) hc (decide (2 * B52 ≤ rg x)) (decide (rg x ≤ CEIL)) v ?_ ?_ ?_ w
        · rw [h1, cmp_ge, hs, sv_floor, Bool.eq_iff_iff, decide_eq_true_iff, decide_eq_true_iff, ← dv_le_iff]; omega
        · rw [h2, cmp_le, hs, sv_ceil, Bool.eq_iff_iff, decide_eq_true_iff, decide_eq_true_iff, ← dv_le_iff]; omega
        · show (decide (2 * B52 ≤ rg x) && decide (rg x ≤ CEIL)) = v
          rw [Bool.eq_iff_iff, Bool.and_eq_true, decide_eq_true_iff, decide_eq_true_iff, ← hv]
          unfold Halv
          exact ⟨fun h => .inr h, fun h => h.elim (fun h2 => absurd h2 hz) id⟩
      have h1 : (FloatKind.f64.format.order x 0 == some Ordering.lt) = decide (sv x < 0) := by rw [h0, cmp_lt, sv_zero]
      by_cases hn : sv x < 0
      · refine key _ ?_ ?_ (abs_neg x (by rw [h1]; simp [hn]))
        · rw [neg_eq x hx]; exact fin_word _ _ hf
        · rw [neg_eq x hx, sv_word _ _ hr]
          rcases sv_cases x with ⟨h3, h4⟩ | ⟨h3, h4⟩
          · omega
          · rw [h3]; simp
      · refine key x hf ?_ (abs_pos x (by rw [h1]; simp [hn]))
        rcases sv_cases x with ⟨h3, h4⟩ | ⟨h3, h4⟩
        · exact h4
        · omega
  · have e : v = false := by
      refine Bool.eq_false_iff.2 fun h => ?_
      have h2 := hv.2 h
      unfold Halv at h2
      rw [hf] at h2
      revert h2; decide
    subst e
    have h0 : FloatKind.f64.format.order x 0 = some (if sg x then Ordering.lt else Ordering.gt) := order_inf_fin hf fin_zero
    cases hs : sg x
    · rw [hs] at h0
      have h1 : FloatKind.f64.format.order x 9007199254740992 = some (if sg x then Ordering.lt else Ordering.gt) := order_inf_fin hf fin_floor
      have h2 : FloatKind.f64.format.order x 9209861237972664320 = some (if sg x then Ordering.lt else Ordering.gt) := order_inf_fin hf fin_ceil
      rw [hs] at h1 h2
      exact halves_walk x x (by rw [h0]; rfl) (abs_pos x (by rw [h0]; rfl)) true false false (by rw [h1]; rfl) (by rw [h2]; rfl) rfl w
    · rw [hs] at h0
      have hr : rg (Op.negFloat .f64 x) = INF := by rw [neg_eq x hx, hf]; exact rg_inf _
      have hsn : sg (Op.negFloat .f64 x) = false := by rw [neg_eq x hx, hf, sg_inf, hs]; rfl
      have h1 : FloatKind.f64.format.order (Op.negFloat .f64 x) 9007199254740992 = some (if sg (Op.negFloat .f64 x) then Ordering.lt else Ordering.gt) := order_inf_fin hr fin_floor
      have h2 : FloatKind.f64.format.order (Op.negFloat .f64 x) 9209861237972664320 = some (if sg (Op.negFloat .f64 x) then Ordering.lt else Ordering.gt) := order_inf_fin hr fin_ceil
      rw [hsn] at h1 h2
      exact halves_walk x (Op.negFloat .f64 x) (by rw [h0]; rfl) (abs_neg x (by rw [h0]; rfl)) true false false (by rw [h1]; rfl) (by rw [h2]; rfl) rfl w
  · have e : v = false := by
      refine Bool.eq_false_iff.2 fun h => ?_
      have h2 := hv.2 h
      have h3 := halv_fin h2
      unfold Nan at hf; unfold Fp.Fin at h3; omega
    subst e
    have h0 : FloatKind.f64.format.order x 0 = none := order_nan (.inl hf)
    have h1 : FloatKind.f64.format.order x 9007199254740992 = none := order_nan (.inl hf)
    have h2 : FloatKind.f64.format.order x 9209861237972664320 = none := order_nan (.inl hf)
    exact halves_walk x x (by rw [h0]; rfl) (abs_pos x (by rw [h0]; rfl)) false false false (by rw [h1]; rfl) (by rw [h2]; rfl) rfl w

/-! ### zzCentreSame -/
theorem same_nans (x y : Nat) (hx : Nan x) (hy : Nan y) (w : World) : Calls Try.prog 7 #[.float .f64 x, .float .f64 y] w fun e w' => e = .returned (.bool true) ∧ w' = w := by
  have h0 : FloatKind.f64.format.order x x = none := order_nan (.inl hx)
  have h1 : FloatKind.f64.format.order y y = none := order_nan (.inl hy)
  go_enter Try.func7, Try.ntmps7
  go_wp2
  go_ret
  exact ⟨rfl, rfl⟩
/-- both not NaN, unequal -/
theorem same_ne (x y : Nat) (hx : ¬ Nan x) (hy : ¬ Nan y) (h : (FloatKind.f64.format.order x y == some Ordering.eq) = false) (w : World) : Calls Try.prog 7 #[.float .f64 x, .float .f64 y] w fun e w' => e = .returned (.bool false) ∧ w' = w := by
  have h0 : FloatKind.f64.format.order x x = some .eq := order_self hx
  have h1 : FloatKind.f64.format.order y y = some .eq := order_self hy
  have h2 : (FloatKind.f64.format.order x y != some Ordering.eq) = true := by rw [bne, h]; rfl
  go_enter Try.func7, Try.ntmps7
  go_wp2
  go_ret
  exact ⟨rfl, rfl⟩
/-- equal, not zero -/
theorem same_eq (x y : Nat) (hx : ¬ Nan x) (hy : ¬ Nan y) (h : FloatKind.f64.format.order x y = some Ordering.eq) (hz : (FloatKind.f64.format.order x 0 == some Ordering.eq) = false) (w : World) : Calls Try.prog 7 #[.float .f64 x, .float .f64 y] w fun e w' => e = .returned (.bool true) ∧ w' = w := by
  have h0 : FloatKind.f64.format.order x x = some .eq := order_self hx
  have h1 : FloatKind.f64.format.order y y = some .eq := order_self hy
  go_enter Try.func7, Try.ntmps7
  go_wp2
  go_ret
  exact ⟨rfl, rfl⟩

def ONE : Nat := 4607182418800017408
theorem read_one : Ieee.double.read 4607182418800017408 = .number false B52 (-52) := by decide
/-- 1 / a zero: the infinity of its sign -/
theorem inv_zero (x : Nat) (h : rg x = 0) : Ieee.double.div 4607182418800017408 x = some (word (sg x) INF) := by
  have hr : Ieee.double.read x = .number (sg x) 0 (-1074) := by rw [read_eq, h]; rfl
  unfold Ieee.Format.div
  rw [read_one, hr]
  simp [Ieee.Datum.quotient, Ieee.Format.write, word_eq, infr, B52]
theorem run_inv (x : Nat) (h : rg x = 0) (w : World) : (binOp .quo 26 (.float .f64 4607182418800017408) (.float .f64 x)).run Try.prog w = .ok (.float .f64 (word (sg x) INF)) w :=
  run_float_arith w .quo 26 .f64 4607182418800017408 x _ (inv_zero x h)

/-- two zeros: by their signs -/
theorem same_zero (x y : Nat) (hx : rg x = 0) (hy : rg y = 0) (v : Bool) (hv : Hid ((sg x == sg y) = v)) (w : World) : Calls Try.prog 7 #[.float .f64 x, .float .f64 y] w fun e w' => e = .returned (.bool v) ∧ w' = w := by
  have fx : Fp.Fin x := by unfold Fp.Fin; rw [hx]; decide
  have fy : Fp.Fin y := by unfold Fp.Fin; rw [hy]; decide
  have nx : ¬ Nan x := by unfold Nan; rw [hx]; decide
  have ny : ¬ Nan y := by unfold Nan; rw [hy]; decide
  have h0 : FloatKind.f64.format.order x x = some .eq := order_self nx
  have h1 : FloatKind.f64.format.order y y = some .eq := order_self ny
  have h2 : FloatKind.f64.format.order x y = some .eq := by
    show Ieee.double.order x y = _
    rw [order_fin fx fy, (sv_zero_iff x).2 hx, (sv_zero_iff y).2 hy]; rfl
  have h3 : FloatKind.f64.format.order x 0 = some .eq := by
    show Ieee.double.order x 0 = _
    rw [order_fin fx fin_zero, (sv_zero_iff x).2 hx, sv_zero]; rfl
  have r1 := fun w => run_inv x hx w
  have r2 := fun w => run_inv y hy w
  have o1 : FloatKind.f64.format.order (word (sg x) INF) 0 = some (if sg x then Ordering.lt else Ordering.gt) := by
    have := order_inf_fin (rg_inf (sg x)) fin_zero
    rw [sg_inf] at this; exact this
  have o2 : FloatKind.f64.format.order (word (sg y) INF) 0 = some (if sg y then Ordering.lt else Ordering.gt) := by
    have := order_inf_fin (rg_inf (sg y)) fin_zero
    rw [sg_inf] at this; exact this
  have l1 : (FloatKind.f64.format.order (word (sg x) INF) 0 == some Ordering.lt) = sg x := by rw [o1]; cases sg x <;> rfl
  have l2 : (FloatKind.f64.format.order (word (sg y) INF) 0 == some Ordering.lt) = sg y := by rw [o2]; cases sg y <;> rfl
  clear o1 o2 fx fy nx ny
  generalize word (sg x) INF = p at r1 l1
  generalize word (sg y) INF = q at r2 l2
  generalize hsx : sg x = a at *
  generalize hsy : sg y = b at *
  clear hsx hsy
  go_enter Try.func7, Try.ntmps7
  go_wp2
  go_ret
  exact ⟨ret_bool hv.out, rfl⟩

/-- zzCentreSame of two finite numbers: the same bits -/
theorem same_fin (x y : Nat) (lx : x < 18446744073709551616) (ly : y < 18446744073709551616) (hx : Fp.Fin x) (hy : Fp.Fin y) (v : Bool) (hv : x = y ↔ v = true) (w : World) :
    Calls Try.prog 7 #[.float .f64 x, .float .f64 y] w fun e w' => e = .returned (.bool v) ∧ w' = w := by
  have nx : ¬ Nan x := by unfold Nan; unfold Fp.Fin at hx; omega
  have ny : ¬ Nan y := by unfold Nan; unfold Fp.Fin at hy; omega
  have ho : FloatKind.f64.format.order x y = some (compare (sv x) (sv y)) := order_fin hx hy
  have hz : FloatKind.f64.format.order x 0 = some (compare (sv x) (sv 0)) := order_fin hx fin_zero
  by_cases he : sv x = sv y
  · by_cases h0 : rg x = 0
    · have hy0 : rg y = 0 := (sv_zero_iff y).1 (by rw [← he]; exact (sv_zero_iff x).2 h0)
      refine same_zero x y h0 hy0 v ?_ w
      show (sg x == sg y) = v
      rw [Bool.eq_iff_iff, beq_iff_eq, ← hv]
      constructor
      · intro hs
        rw [← word_self x lx, ← word_self y ly, hs, h0, hy0]
      · intro hs; rw [hs]
    · have hxy : x = y := by
        have e1 := sv_abs x
        have e2 := sv_abs y
        have er : rg x = rg y := dv_inj (by rw [← e1, ← e2, he])
        have hd := dv_pos (Nat.pos_of_ne_zero h0)
        have es : sg x = sg y := by
          rcases sv_cases x with ⟨a1, a2⟩ | ⟨a1, a2⟩ <;> rcases sv_cases y with ⟨b1, b2⟩ | ⟨b1, b2⟩
          · rw [a1, b1]
          · rw [← er] at b2; omega
          · rw [← er] at b2; omega
          · rw [a1, b1]
        rw [← word_self x lx, ← word_self y ly, er, es]
      have e : v = true := hv.1 hxy
      subst e
      refine same_eq x y nx ny ?_ ?_ w
      · rw [ho, he]; simp [compare, compareOfLessAndEq]
      · rw [hz, cmp_eq, sv_zero]
        have : ¬ sv x = 0 := fun h => h0 ((sv_zero_iff x).1 h)
        simp [this]
  · have e : v = false := Bool.eq_false_iff.2 fun h => he (by rw [hv.2 h])
    subst e
    exact same_ne x y nx ny (by rw [ho, cmp_eq]; simp [he]) w
/-- zzCentreSame of a word that is no NaN with itself -/
theorem same_self (x : Nat) (lx : x < 18446744073709551616) (hx : ¬ Nan x) (w : World) :
    Calls Try.prog 7 #[.float .f64 x, .float .f64 x] w fun e w' => e = .returned (.bool true) ∧ w' = w := by
  rcases fin_or x with h | h | h
  · exact same_fin x x lx lx h h true (by simp) w
  · refine same_eq x x hx hx (order_self hx) ?_ w
    have h0 : FloatKind.f64.format.order x 0 = some (if sg x then Ordering.lt else Ordering.gt) := order_inf_fin h fin_zero
    rw [h0]; cases sg x <;> rfl
  · exact absurd h hx
/-- what the same corners give: the same bits, or two NaNs -/
theorem same_cen (x y : Nat) (lx : x < 18446744073709551616) (h : (x = y ∧ ¬ Nan x) ∨ (Nan x ∧ Nan y)) (w : World) :
    Calls Try.prog 7 #[.float .f64 x, .float .f64 y] w fun e w' => e = .returned (.bool true) ∧ w' = w := by
  rcases h with ⟨rfl, h⟩ | ⟨h1, h2⟩
  · exact same_self x lx h w
  · exact same_nans x y h1 h2 w
end Go.Proofs.Qxb6621747a.Wk
