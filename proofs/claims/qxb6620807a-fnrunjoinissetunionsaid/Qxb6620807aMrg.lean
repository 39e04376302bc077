/-
  The plain law of the join: two ascending rows merged, then the counters that continue the unbroken run absorbed. No walk.
-/
import Derived.Test.Qxb6620807aWalks
namespace Go.Proofs.Qxb6620807a.Wk
set_option linter.unusedVariables false

def upd (out : Nat → Int) (c : Nat) (x : Int) (t : Nat) : Int := if t = c then x else out t
theorem upd_at (out : Nat → Int) (c : Nat) (x : Int) : upd out c x c = x := by simp [upd]
theorem upd_ne (out : Nat → Int) (c : Nat) (x : Int) (t : Nat) (h : t ≠ c) : upd out c x t = out t := by simp [upd, h]

/-- the first c of 'out' are the first i of fa and those of the first jj of fb that lie above U, in order -/
structure Mrg (U : Int) (la lb : Nat) (fa fb : Nat → Int) (i jj c : Nat) (out : Nat → Int) : Prop where
  asc : Asc c out
  mem : ∀ x, (∃ t, t < c ∧ out t = x) ↔ (∃ t, t < i ∧ fa t = x) ∨ (∃ t, t < jj ∧ fb t = x ∧ U < x)
  lta : ∀ t, t < c → ∀ q, i ≤ q → q < la → out t < fa q
  ltb : ∀ t, t < c → ∀ q, jj ≤ q → q < lb → out t < fb q
  gb : ∀ q, jj ≤ q → q < lb → U < fb q

theorem mrg_start (U : Int) (la lb : Nat) (fa fb out : Nat → Int) (k : Nat) (hpre : ∀ t, t < k → fb t ≤ U) (hgb : ∀ q, k ≤ q → q < lb → U < fb q) : Mrg U la lb fa fb 0 k 0 out := by
  refine ⟨fun i j _ h => absurd h (by omega), fun x => ⟨fun ⟨t, h, _⟩ => absurd h (by omega), ?_⟩, fun t h => absurd h (by omega), fun t h => absurd h (by omega), hgb⟩
  rintro (⟨t, h, _⟩ | ⟨t, h, rfl, h2⟩)
  · omega
  · have := hpre t h; omega

theorem push_asc {c : Nat} {out : Nat → Int} {x : Int} (h : Asc c out) (hx : ∀ t, t < c → out t < x) : Asc (c + 1) (upd out c x) := by
  intro p q hpq hq
  by_cases e : q = c
  · subst e
    rw [upd_at, upd_ne _ _ _ _ (by omega)]
    exact hx p hpq
  · rw [upd_ne _ _ _ _ e, upd_ne _ _ _ _ (by omega)]
    exact h p q hpq (by omega)
theorem push_mem {c : Nat} {out : Nat → Int} {x : Int} (y : Int) : (∃ t, t < c + 1 ∧ upd out c x t = y) ↔ (∃ t, t < c ∧ out t = y) ∨ x = y := by
  constructor
  · rintro ⟨t, ht, h⟩
    by_cases e : t = c
    · subst e; rw [upd_at] at h; exact .inr h
    · rw [upd_ne _ _ _ _ e] at h; exact .inl ⟨t, by omega, h⟩
  · rintro (⟨t, ht, h⟩ | h)
    · exact ⟨t, by omega, by rw [upd_ne _ _ _ _ (by omega)]; exact h⟩
    · exact ⟨c, by omega, by rw [upd_at]; exact h⟩
theorem more_mem {n : Nat} {f : Nat → Int} (P : Int → Prop) (y : Int) : (∃ t, t < n + 1 ∧ f t = y ∧ P y) ↔ (∃ t, t < n ∧ f t = y ∧ P y) ∨ (f n = y ∧ P y) := by
  constructor
  · rintro ⟨t, ht, h⟩
    by_cases e : t = n
    · subst e; exact .inr h
    · exact .inl ⟨t, by omega, h⟩
  · rintro (⟨t, ht, h⟩ | h)
    · exact ⟨t, by omega, h⟩
    · exact ⟨n, by omega, h⟩
theorem more_mem' {n : Nat} {f : Nat → Int} (y : Int) : (∃ t, t < n + 1 ∧ f t = y) ↔ (∃ t, t < n ∧ f t = y) ∨ f n = y := by
  constructor
  · rintro ⟨t, ht, h⟩
    by_cases e : t = n
    · subst e; exact .inr h
    · exact .inl ⟨t, by omega, h⟩
  · rintro (⟨t, ht, h⟩ | h)
    · exact ⟨t, by omega, h⟩
    · exact ⟨n, by omega, h⟩

theorem Mrg.takeA {U : Int} {la lb : Nat} {fa fb : Nat → Int} {i jj c : Nat} {out : Nat → Int} (h : Mrg U la lb fa fb i jj c out) (ha : Asc la fa) (hb : Asc lb fb) (hi : i < la) (hlt : jj < lb → fa i < fb jj) :
    Mrg U la lb fa fb (i + 1) jj (c + 1) (upd out c (fa i)) := by
  refine ⟨push_asc h.asc (fun t ht => h.lta t ht i (Nat.le_refl _) hi), ?_, ?_, ?_, h.gb⟩
  · intro x
    rw [push_mem, h.mem, more_mem', or_assoc, or_assoc]
    exact or_congr_right ⟨fun e => e.elim .inr .inl, fun e => e.elim .inr .inl⟩
  · intro t ht q hq1 hq2
    by_cases e : t = c
    · subst e; rw [upd_at]; exact ha i q (by omega) hq2
    · rw [upd_ne _ _ _ _ e]; exact h.lta t (by omega) q (by omega) hq2
  · intro t ht q hq1 hq2
    by_cases e : t = c
    · subst e; rw [upd_at]
      have h1 := hlt (by omega)
      by_cases e2 : q = jj
      · subst e2; exact h1
      · have := hb jj q (by omega) hq2; omega
    · rw [upd_ne _ _ _ _ e]; exact h.ltb t (by omega) q hq1 hq2

theorem Mrg.takeB {U : Int} {la lb : Nat} {fa fb : Nat → Int} {i jj c : Nat} {out : Nat → Int} (h : Mrg U la lb fa fb i jj c out) (ha : Asc la fa) (hb : Asc lb fb) (hj : jj < lb) (hlt : i < la → fb jj < fa i) :
    Mrg U la lb fa fb i (jj + 1) (c + 1) (upd out c (fb jj)) := by
  refine ⟨push_asc h.asc (fun t ht => h.ltb t ht jj (Nat.le_refl _) hj), ?_, ?_, ?_, fun q h1 h2 => h.gb q (by omega) h2⟩
  · intro x
    have hg := h.gb jj (Nat.le_refl _) hj
    rw [push_mem, h.mem, more_mem (fun y => U < y), or_assoc]
    refine or_congr_right (or_congr_right ⟨fun e => ⟨e, by omega⟩, fun e => e.1⟩)
  · intro t ht q hq1 hq2
    by_cases e : t = c
    · subst e; rw [upd_at]
      have h1 := hlt (by omega)
      by_cases e2 : q = i
      · subst e2; exact h1
      · have := ha i q (by omega) hq2; omega
    · rw [upd_ne _ _ _ _ e]; exact h.lta t (by omega) q hq1 hq2
  · intro t ht q hq1 hq2
    by_cases e : t = c
    · subst e; rw [upd_at]; exact hb jj q (by omega) hq2
    · rw [upd_ne _ _ _ _ e]; exact h.ltb t (by omega) q (by omega) hq2

theorem Mrg.takeAB {U : Int} {la lb : Nat} {fa fb : Nat → Int} {i jj c : Nat} {out : Nat → Int} (h : Mrg U la lb fa fb i jj c out) (ha : Asc la fa) (hb : Asc lb fb) (hi : i < la) (hj : jj < lb) (heq : fa i = fb jj) :
    Mrg U la lb fa fb (i + 1) (jj + 1) (c + 1) (upd out c (fa i)) := by
  refine ⟨push_asc h.asc (fun t ht => h.lta t ht i (Nat.le_refl _) hi), ?_, ?_, ?_, fun q h1 h2 => h.gb q (by omega) h2⟩
  · intro x
    have hg := h.gb jj (Nat.le_refl _) hj
    rw [push_mem, h.mem, more_mem', more_mem (fun y => U < y)]
    constructor
    · rintro ((h1 | h1) | h1)
      · exact .inl (.inl h1)
      · exact .inr (.inl h1)
      · exact .inl (.inr h1)
    · rintro ((h1 | h1) | (h1 | h1))
      · exact .inl (.inl h1)
      · exact .inr h1
      · exact .inl (.inr h1)
      · exact .inr (by rw [heq]; exact h1.1)
  · intro t ht q hq1 hq2
    by_cases e : t = c
    · subst e; rw [upd_at]; exact ha i q (by omega) hq2
    · rw [upd_ne _ _ _ _ e]; exact h.lta t (by omega) q (by omega) hq2
  · intro t ht q hq1 hq2
    by_cases e : t = c
    · subst e; rw [upd_at, heq]; exact hb jj q (by omega) hq2
    · rw [upd_ne _ _ _ _ e]; exact h.ltb t (by omega) q (by omega) hq2

theorem va_asc {up : Int} {L : Nat} {f : Nat → Int} (h : Va up L f) : Asc L f := by
  intro p q hpq hq
  induction q with
  | zero => omega
  | succ q ih =>
    have h1 := h (q + 1) hq
    rw [if_neg (by omega), Nat.add_sub_cancel] at h1
    by_cases e : p = q
    · subst e; exact h1
    · exact Int.lt_trans (ih (by omega) (by omega)) h1
theorem va_gt {up : Int} {L : Nat} {f : Nat → Int} (h : Va up L f) (i : Nat) (hi : i < L) : up + 2 ≤ f i := by
  have h0 : up + 1 < f 0 := by have := h 0 (by omega); simpa using this
  by_cases e : i = 0
  · subst e; omega
  · have := va_asc h 0 i (by omega) hi; omega

/-- what the whole join comes to -/
theorem join_plain (U V : Int) (la lb : Nat) (fa fb : Nat → Int) (c d : Nat) (out : Nat → Int) (hU : 0 ≤ U) (hV : 0 ≤ V) (hUV : V ≤ U) (ha : Va U la fa) (hb : Va V lb fb)
    (hm : Mrg U la lb fa fb la lb c out) (hd : d ≤ c) (hpre : ∀ i, i < d → out i = U + 1 + i) (hne : d < c → out d ≠ U + d + 1) :
    Va (U + d) (c - d) (fun i => out (d + i)) ∧ ∀ x, Has (U + d) (c - d) (fun i => out (d + i)) x ↔ Has U la fa x ∨ Has V lb fb x := by
  have hgt : ∀ t, t < c → U < out t := by
    intro t ht
    rcases (hm.mem (out t)).1 ⟨t, ht, rfl⟩ with ⟨q, hq, e⟩ | ⟨q, hq, e, h⟩
    · have := va_gt ha q hq; omega
    · exact h
  have hlow : ∀ t, t < c → U + 1 + t ≤ out t := by
    intro t
    induction t with
    | zero => intro ht; have := hgt 0 ht; omega
    | succ t ih =>
      intro ht
      have h1 := ih (by omega)
      have h2 := hm.asc t (t + 1) (by omega) ht
      omega
  refine ⟨?_, ?_⟩
  · intro k hk
    by_cases e : k = 0
    · subst e
      have h1 := hlow d (by omega)
      have h2 := hne (by omega)
      simp only [if_true, Nat.add_zero]
      omega
    · rw [if_neg e]
      have := hm.asc (d + (k - 1)) (d + k) (by omega) (by omega)
      exact this
  · intro x
    have hL : Has (U + d) (c - d) (fun i => out (d + i)) x ↔ (1 ≤ x ∧ x ≤ U) ∨ ∃ t, t < c ∧ out t = x := by
      constructor
      · rintro (⟨h1, h2⟩ | ⟨i, hi, e⟩)
        · by_cases h3 : x ≤ U
          · exact .inl ⟨h1, h3⟩
          · refine .inr ⟨(x - U - 1).toNat, by omega, ?_⟩
            rw [hpre _ (by omega)]
            omega
        · exact .inr ⟨d + i, by omega, e⟩
      · rintro (⟨h1, h2⟩ | ⟨t, ht, e⟩)
        · exact .inl ⟨h1, by omega⟩
        · by_cases h3 : t < d
          · have h4 := hpre t h3
            exact .inl ⟨by omega, by omega⟩
          · exact .inr ⟨t - d, by omega, by show out (d + (t - d)) = x; rw [show d + (t - d) = t from by omega]; exact e⟩
    rw [hL, hm.mem]
    constructor
    · rintro (h | h | ⟨t, ht, e, h⟩)
      · exact .inl (.inl h)
      · exact .inl (.inr h)
      · exact .inr (.inr ⟨t, ht, e⟩)
    · rintro ((h | h) | (h | ⟨t, ht, e⟩))
      · exact .inl h
      · exact .inr (.inl h)
      · exact .inl ⟨h.1, by omega⟩
      · have h1 := va_gt hb t ht
        by_cases h2 : U < x
        · exact .inr (.inr ⟨t, ht, e, h2⟩)
        · exact .inl ⟨by omega, by omega⟩
end Go.Proofs.Qxb6620807a.Wk
