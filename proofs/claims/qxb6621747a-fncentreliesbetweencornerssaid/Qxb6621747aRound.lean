/-
  What a round of the law 'the centre lies between the corners' meets.
-/
import Derived.Test.Qxb6621747aZZ
namespace Go.Proofs.Qxb6621747a.Wk
open Go.RowKit
open Fp
set_option linter.unusedVariables false

def MAX : Nat := 9218868437227405311
def NMAX : Nat := 18442240474082181119
theorem fin_max : Fp.Fin 9218868437227405311 := by unfold Fp.Fin; decide
theorem fin_nmax : Fp.Fin 18442240474082181119 := by unfold Fp.Fin; decide
theorem sv_max : sv 9218868437227405311 = (dv (INF - 1) : Int) := by
  unfold sv
  rw [show rg 9218868437227405311 = INF - 1 from by decide, show sg 9218868437227405311 = false from by decide]; rfl
theorem sv_nmax : sv 18442240474082181119 = -(dv (INF - 1) : Int) := by
  unfold sv
  rw [show rg 18442240474082181119 = INF - 1 from by decide, show sg 18442240474082181119 = true from by decide]; rfl
theorem sv_bound {x : Nat} (h : Fp.Fin x) : -(dv (INF - 1) : Int) ≤ sv x ∧ sv x ≤ (dv (INF - 1) : Int) := by
  have h1 : dv (rg x) ≤ dv (INF - 1) := dv_mono (by unfold Fp.Fin at h; omega)
  rcases sv_cases x with ⟨_, e⟩ | ⟨_, e⟩ <;> rw [e] <;> omega

/-- what the tests on one corner say -/
theorem cls (a : Nat) :
    (rg a = INF ∧ sg a = false ∧ FloatKind.f64.format.order a 9218868437227405311 = some .gt ∧ FloatKind.f64.format.order a 0 = some .gt) ∨
    (rg a = INF ∧ sg a = true ∧ FloatKind.f64.format.order a 9218868437227405311 = some .lt ∧ FloatKind.f64.format.order a 18442240474082181119 = some .lt ∧ FloatKind.f64.format.order a 0 = some .lt) ∨
    (Fp.Fin a ∧ (FloatKind.f64.format.order a 9218868437227405311 == some Ordering.gt) = false ∧ (FloatKind.f64.format.order a 18442240474082181119 == some Ordering.lt) = false) ∨
    Nan a := by
  rcases fin_or a with h | h | h
  · refine .inr (.inr (.inl ⟨h, ?_, ?_⟩))
    · have h1 : FloatKind.f64.format.order a 9218868437227405311 = some (compare (sv a) (sv 9218868437227405311)) := order_fin h fin_max
      rw [h1, cmp_gt, sv_max]
      have := sv_bound h
      simp; omega
    · have h1 : FloatKind.f64.format.order a 18442240474082181119 = some (compare (sv a) (sv 18442240474082181119)) := order_fin h fin_nmax
      rw [h1, cmp_lt, sv_nmax]
      have := sv_bound h
      simp; omega
  · have h0 : FloatKind.f64.format.order a 0 = some (if sg a then .lt else .gt) := order_inf_fin h fin_zero
    have h1 : FloatKind.f64.format.order a 9218868437227405311 = some (if sg a then .lt else .gt) := order_inf_fin h fin_max
    have h2 : FloatKind.f64.format.order a 18442240474082181119 = some (if sg a then .lt else .gt) := order_inf_fin h fin_nmax
    cases hs : sg a <;> rw [hs] at h0 h1 h2
    · exact .inl ⟨h, rfl, h1, h0⟩
    · exact .inr (.inl ⟨h, rfl, h1, h2, h0⟩)
  · exact .inr (.inr (.inr h))

theorem not_nan_inf {a : Nat} (h : rg a = INF) : ¬ Nan a := by unfold Nan; omega
theorem not_nan_fin {a : Nat} (h : Fp.Fin a) : ¬ Nan a := by unfold Nan; unfold Fp.Fin at h; omega
theorem ord_self {a : Nat} (h : ¬ Nan a) : FloatKind.f64.format.order a a = some .eq := order_self h
theorem ord_nan {a : Nat} (h : Nan a) : FloatKind.f64.format.order a a = none := order_nan (.inl h)

theorem cen_none {a b m : Nat} (h : Cen a b m) (h1 : Ieee.double.add a b = none) : FloatKind.f64.format.order m m = none := by
  rcases h with ⟨s, h2, _⟩ | ⟨_, h2⟩
  · rw [h1] at h2; cases h2
  · exact ord_nan h2
theorem cen_infs {a b m : Nat} {s : Bool} (h : Cen a b m) (h1 : Ieee.double.add a b = some (word s INF)) : m = word s INF := by
  rcases h with ⟨t, h2, h3⟩ | ⟨h2, _⟩
  · rw [h1] at h2; cases h2
    rw [half_inf (rg_inf s), sg_inf] at h3
    cases h3; rfl
  · rw [h1] at h2; cases h2
theorem ord_infs {a : Nat} (h : rg a = INF) : FloatKind.f64.format.order (word (sg a) INF) a = some .eq := by
  have h1 : FloatKind.f64.format.order (word (sg a) INF) a = _ := order_inf_inf (rg_inf (sg a)) h
  rw [h1, sg_inf]
  simp [compare, compareOfLessAndEq]

/-- one corner is infinite: what the centre answers -/
theorem cen_pp {a b m : Nat} (ha : rg a = INF) (hb : rg b = INF) (hs : sg a = sg b) (h : Cen a b m) : FloatKind.f64.format.order m a = some .eq := by
  rw [cen_infs h (add_inf_same ha hb hs)]; exact ord_infs ha
theorem cen_pm {a b m : Nat} (ha : rg a = INF) (hb : rg b = INF) (hs : sg a ≠ sg b) (h : Cen a b m) : FloatKind.f64.format.order m m = none :=
  cen_none h (add_inf_opp ha hb hs)
theorem cen_pf {a b m : Nat} (ha : rg a = INF) (hb : Fp.Fin b) (h : Cen a b m) : FloatKind.f64.format.order m a = some .eq := by
  rw [cen_infs h (add_inf_left ha hb)]; exact ord_infs ha
theorem cen_fp {a b m : Nat} (ha : Fp.Fin a) (hb : rg b = INF) (h : Cen a b m) : FloatKind.f64.format.order m b = some .eq := by
  rw [cen_infs h (add_inf_right ha hb)]; exact ord_infs hb
theorem cen_nan {a b m : Nat} (hn : Nan a ∨ Nan b) (h : Cen a b m) : FloatKind.f64.format.order m m = none := cen_none h (add_nan hn)

/-- two finite corners -/
structure Pk (a b : Nat) (va vb vs : Bool) : Prop where
  c1 : ∀ w, Calls Try.prog 10 #[.float .f64 a] w fun e w' => e = .returned (.bool va) ∧ w' = w
  c2 : ∀ w, Calls Try.prog 10 #[.float .f64 b] w fun e w' => e = .returned (.bool vb) ∧ w' = w
  c3 : ∀ w, Calls Try.prog 7 #[.float .f64 a, .float .f64 b] w fun e w' => e = .returned (.bool vs) ∧ w' = w
theorem pk (a b : Nat) (ha : Fp.Fin a) (hb : Fp.Fin b) (la : a < 18446744073709551616) (lb : b < 18446744073709551616) : Pk a b (decide (rg a ≤ CEIL)) (decide (rg b ≤ CEIL)) (decide (a = b)) :=
  ⟨small a la ha _ (by simp), small b lb hb _ (by simp), same_fin a b la lb ha hb _ (by simp)⟩

def le (x y : Nat) : Bool := (FloatKind.f64.format.order x y == some Ordering.lt || FloatKind.f64.format.order x y == some Ordering.eq)
theorem le_fin {x y : Nat} (hx : Fp.Fin x) (hy : Fp.Fin y) : le x y = decide (sv x ≤ sv y) := by
  have h1 : FloatKind.f64.format.order x y = some (compare (sv x) (sv y)) := order_fin hx hy
  unfold le
  rw [h1, cmp_le]

/-- finite corners: the three ways -/
theorem ff (a b m : Nat) (ha : Fp.Fin a) (hb : Fp.Fin b) (la : a < 18446744073709551616) (lb : b < 18446744073709551616) (h : Cen a b m) : ∃ (va vb vs sw : Bool), Pk a b va vb vs ∧ (FloatKind.f64.format.order a b == some Ordering.gt) = sw ∧
    (((sw = true → le b m = true ∧ le m a = true) ∧ (sw = false → le a m = true ∧ le m b = true) ∧ (vs = true → va = true → ∀ w, Calls Try.prog 7 #[.float .f64 m, .float .f64 a] w fun e w' => e = .returned (.bool true) ∧ w' = w)) ∨
     ((va && vb) = false ∧ (vs && va) = false ∧ FloatKind.f64.format.order m 9218868437227405311 = some .gt ∧ FloatKind.f64.format.order m 18442240474082181119 = some .gt ∧ FloatKind.f64.format.order a 0 = some .gt ∧ FloatKind.f64.format.order b 0 = some .gt ∧
        FloatKind.f64.format.order a m = some .lt ∧ FloatKind.f64.format.order b m = some .lt ∧ FloatKind.f64.format.order m a = some .gt ∧ FloatKind.f64.format.order m b = some .gt) ∨
     ((va && vb) = false ∧ (vs && va) = false ∧ FloatKind.f64.format.order m 9218868437227405311 = some .lt ∧ FloatKind.f64.format.order m 18442240474082181119 = some .lt ∧ FloatKind.f64.format.order a 0 = some .lt ∧ FloatKind.f64.format.order b 0 = some .lt ∧
        FloatKind.f64.format.order a m = some .gt ∧ FloatKind.f64.format.order b m = some .gt)) := by
  have hab : FloatKind.f64.format.order a b = some (compare (sv a) (sv b)) := order_fin ha hb
  have ha0 : FloatKind.f64.format.order a 0 = some (compare (sv a) (sv 0)) := order_fin ha fin_zero
  have hb0 : FloatKind.f64.format.order b 0 = some (compare (sv b) (sv 0)) := order_fin hb fin_zero
  refine ⟨_, _, _, decide (sv b < sv a), pk a b ha hb la lb, by rw [hab, cmp_gt], ?_⟩
  rcases cen_fin ha hb h with ⟨h1, h2⟩ | ⟨h1, h2⟩
  · obtain ⟨hm, k1, k2⟩ := between ha hb h1 h2
    refine .inl ⟨?_, ?_, ?_⟩
    · intro hsw
      simp at hsw
      rw [le_fin hb hm, le_fin hm ha]
      exact ⟨decide_eq_true (k1 _ (by omega) (by omega) (.inr rfl)), decide_eq_true (k2 _ (by omega) (by omega) (.inl rfl))⟩
    · intro hsw
      simp at hsw
      rw [le_fin ha hm, le_fin hm hb]
      exact ⟨decide_eq_true (k1 _ (by omega) (by omega) (.inl rfl)), decide_eq_true (k2 _ (by omega) (by omega) (.inr rfl))⟩
    · intro e1 e2 w
      simp at e1 e2
      subst e1
      rw [point ha la e2 h]
      exact same_self a la (not_nan_fin ha) w
  · obtain ⟨k1, k2⟩ := over ha hb h1
    have b1 : (decide (rg a ≤ CEIL) && decide (rg b ≤ CEIL)) = false := by
      rw [Bool.eq_false_iff]
      intro e
      simp at e
      exact k1 e
    have b2 : (decide (a = b) && decide (rg a ≤ CEIL)) = false := by
      rw [Bool.eq_false_iff]
      intro e
      simp at e
      exact k1 ⟨e.2, by rw [← e.1]; exact e.2⟩
    rcases k2 with ⟨hs, p1, p2⟩ | ⟨hs, p1, p2⟩
    · rw [hs] at h2
      have hr : rg m = INF := by rw [h2]; exact rg_inf _
      have hsg : sg m = false := by rw [h2]; exact sg_inf _
      have o1 : ∀ x, Fp.Fin x → FloatKind.f64.format.order m x = some .gt := by
        intro x hx
        have : FloatKind.f64.format.order m x = some (if sg m then .lt else .gt) := order_inf_fin hr hx
        rw [this, hsg]; rfl
      have o2 : ∀ x, Fp.Fin x → FloatKind.f64.format.order x m = some .lt := by
        intro x hx
        have : FloatKind.f64.format.order x m = some (if sg m then .gt else .lt) := order_fin_inf hx hr
        rw [this, hsg]; rfl
      have o3 : ∀ x, Fp.Fin x → 0 < sv x → FloatKind.f64.format.order x 0 = some .gt := by
        intro x hx h0
        have : FloatKind.f64.format.order x 0 = some (compare (sv x) (sv 0)) := order_fin hx fin_zero
        rw [this, sv_zero]
        simp [compare, compareOfLessAndEq]
        rw [if_neg (by omega), if_neg (by omega)]
      exact .inr (.inl ⟨b1, b2, o1 _ fin_max, o1 _ fin_nmax, o3 _ ha p1, o3 _ hb p2, o2 _ ha, o2 _ hb, o1 _ ha, o1 _ hb⟩)
    · rw [hs] at h2
      have hr : rg m = INF := by rw [h2]; exact rg_inf _
      have hsg : sg m = true := by rw [h2]; exact sg_inf _
      have o1 : ∀ x, Fp.Fin x → FloatKind.f64.format.order m x = some .lt := by
        intro x hx
        have : FloatKind.f64.format.order m x = some (if sg m then .lt else .gt) := order_inf_fin hr hx
        rw [this, hsg]; rfl
      have o2 : ∀ x, Fp.Fin x → FloatKind.f64.format.order x m = some .gt := by
        intro x hx
        have : FloatKind.f64.format.order x m = some (if sg m then .gt else .lt) := order_fin_inf hx hr
        rw [this, hsg]; rfl
      have o3 : ∀ x, Fp.Fin x → sv x < 0 → FloatKind.f64.format.order x 0 = some .lt := by
        intro x hx h0
        have : FloatKind.f64.format.order x 0 = some (compare (sv x) (sv 0)) := order_fin hx fin_zero
        rw [this, sv_zero]
        simp only [compare, compareOfLessAndEq]
        rw [if_pos h0]
      exact .inr (.inr ⟨b1, b2, o1 _ fin_max, o1 _ fin_nmax, o3 _ ha p1, o3 _ hb p2, o2 _ ha, o2 _ hb⟩)
end Go.Proofs.Qxb6621747a.Wk
