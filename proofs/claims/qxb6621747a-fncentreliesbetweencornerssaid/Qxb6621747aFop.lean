/-
  The model's operations on float64 in the words of Qxb6621747aFp: sums, halves, order.
-/
import Derived.Test.Qxb6621747aFp
namespace Go.Proofs.Qxb6621747a.Fp
open Ieee

theorem shl (m k : Nat) : m <<< k = m * 2 ^ k := Nat.shiftLeft_eq m k
theorem log2_mul (m k : Nat) (h : m ≠ 0) : (m * 2 ^ k).log2 = m.log2 + k := by
  have hb := log_bounds h
  have hp := Nat.two_pow_pos k
  have h0 : m * 2 ^ k ≠ 0 := Nat.mul_ne_zero h (by omega)
  have a1 : m.log2 + k ≤ (m * 2 ^ k).log2 := (Nat.le_log2 h0).2 (by rw [Nat.pow_add]; exact Nat.mul_le_mul_right _ hb.1)
  have a2 : (m * 2 ^ k).log2 < m.log2 + k + 1 := (Nat.log2_lt h0).2 (by
    rw [show m.log2 + k + 1 = m.log2 + 1 + k from by omega, Nat.pow_add]; exact Nat.mul_lt_mul_of_pos_right hb.2 hp)
  omega
theorem least : double.leastPlace = -1074 := by decide
theorem bin : double.binade = B52 := by decide
theorem frac : double.fractionBits = 52 := rfl
theorem infr : double.infRung = INF := by decide
theorem sw : double.signWeight = 9223372036854775808 := by decide

theorem rne_zero (n : Nat) : rne n 0 = n := by have := rne_mul n 0; simpa using this

/-- the nearest word hangs on the value alone -/
theorem nearest_shift (neg : Bool) (m : Nat) (p : Int) (k : Nat) : double.nearest neg (m * 2 ^ k) (p - k) = double.nearest neg m p := by
  by_cases h : m = 0
  · subst h; simp [Format.nearest]
  · have hp := Nat.two_pow_pos k
    have h0 : m * 2 ^ k ≠ 0 := Nat.mul_ne_zero h (by omega)
    unfold Format.nearest
    rw [if_neg h, if_neg h0]
    simp only [cut_eq, shl, log2_mul m k h, least, frac, bin, infr]
    have e1 : p - (k : Int) + ((m.log2 + k : Nat) : Int) - ((52 : Nat) : Int) = p + (m.log2 : Int) - ((52 : Nat) : Int) := by omega
    rw [e1]
    generalize hL : max (p + (m.log2 : Int) - ((52 : Nat) : Int)) (-1074) = L
    have key : rne (m * 2 ^ k * 2 ^ (p - (k : Int) - L).toNat) (L - (p - (k : Int))).toNat = rne (m * 2 ^ (p - L).toNat) (L - p).toNat := by
      by_cases h1 : L ≤ p
      · obtain ⟨x, hx⟩ : ∃ x : Nat, (p - L).toNat = x := ⟨_, rfl⟩
        have hd : (L - p).toNat = 0 := by omega
        rw [hx, hd, rne_zero]
        by_cases h2 : k ≤ x
        · rw [show (L - (p - (k : Int))).toNat = 0 from by omega, rne_zero, show (p - (k : Int) - L).toNat = x - k from by omega, Nat.mul_assoc, ← Nat.pow_add, show k + (x - k) = x from by omega]
        · rw [show (p - (k : Int) - L).toNat = 0 from by omega, show (L - (p - (k : Int))).toNat = k - x from by omega, Nat.pow_zero, Nat.mul_one]
          have e2 : m * 2 ^ k = m * 2 ^ x * 2 ^ (k - x) := by rw [Nat.mul_assoc, ← Nat.pow_add, show x + (k - x) = k from by omega]
          rw [e2, rne_mul]
      · rw [show (p - (k : Int) - L).toNat = 0 from by omega, show (p - L).toNat = 0 from by omega, Nat.pow_zero, Nat.mul_one, Nat.mul_one, show (L - (p - (k : Int))).toNat = (L - p).toNat + k from by omega, rne_pow]
    rw [key]

theorem nearest_at (neg : Bool) (V : Nat) : double.nearest neg V (-1075) = double.word neg (min (rnd V) INF) := by
  by_cases h : V = 0
  · subst h; simp [Format.nearest, rnd, rne]
  · unfold Format.nearest
    rw [if_neg h]
    simp only [cut_eq, shl, least, frac, bin, infr]
    have e1 : (max (-1075 + (V.log2 : Int) - ((52 : Nat) : Int)) (-1074) - -1074).toNat = V.log2 - 53 := by omega
    have e2 : (-1075 - max (-1075 + (V.log2 : Int) - ((52 : Nat) : Int)) (-1074)).toNat = 0 := by omega
    have e3 : (max (-1075 + (V.log2 : Int) - ((52 : Nat) : Int)) (-1074) - -1075).toNat = V.log2 - 53 + 1 := by omega
    rw [e1, e2, e3, Nat.pow_zero, Nat.mul_one]
    rfl
/-- a number in units of 2^-1075 -/
theorem nearest_eq (neg : Bool) (m : Nat) (p : Int) (k : Nat) (h : p + 1075 = k) : double.nearest neg m p = double.word neg (min (rnd (m * 2 ^ k)) INF) := by
  rw [← nearest_at, ← nearest_shift neg m p k, show p - (k : Int) = -1075 from by omega]

/-! ### words -/
def sg (x : Nat) : Bool := x / 9223372036854775808 % 2 == 1
def rg (x : Nat) : Nat := x % 9223372036854775808
def word (s : Bool) (R : Nat) : Nat := if s then 9223372036854775808 + R else R
theorem word_eq (s : Bool) (R : Nat) : double.word s R = word s R := by unfold Format.word word; rw [sw]
theorem sg_word (s : Bool) (R : Nat) (h : R < 9223372036854775808) : sg (word s R) = s := by
  unfold sg word
  cases s
  · simp; omega
  · simp; omega
theorem rg_word (s : Bool) (R : Nat) (h : R < 9223372036854775808) : rg (word s R) = R := by
  unfold rg word
  cases s
  · simp; omega
  · simp; omega
theorem word_self (x : Nat) (h : x < 18446744073709551616) : word (sg x) (rg x) = x := by
  unfold word sg rg
  by_cases h1 : x < 9223372036854775808
  · have e : (x / 9223372036854775808 % 2 == 1) = false := by rw [beq_eq_false_iff_ne]; omega
    rw [e]; simp; omega
  · have e : (x / 9223372036854775808 % 2 == 1) = true := by rw [beq_iff_eq]; omega
    rw [e]; simp; omega
def Fin (x : Nat) : Prop := rg x < INF
def Nan (x : Nat) : Prop := INF < rg x

theorem read_eq (x : Nat) : double.read x = if rg x < B52 then .number (sg x) (rg x) (-1074) else if rg x < INF then .number (sg x) (B52 + rg x % B52) (-1074 + ((rg x / B52 - 1 : Nat) : Int)) else if rg x = INF then .infinity (sg x) else .nan (sg x) (rg x - INF) := by
  unfold Format.read
  simp only [sw, bin, infr, least]
  rfl
theorem read_fin {x : Nat} (h : Fin x) : ∃ (m : Nat) (i : Int) (k : Nat), double.read x = .number (sg x) m i ∧ i + 1075 = k ∧ 1 ≤ k ∧ m * 2 ^ k = dv (rg x) ∧ m < 2 * B52 := by
  rw [read_eq]
  by_cases h1 : rg x < B52
  · rw [if_pos h1]
    exact ⟨rg x, -1074, 1, rfl, by omega, by omega, by rw [dv_low (by omega)]; omega, by omega⟩
  · rw [if_neg h1, if_pos (show rg x < INF from h)]
    obtain ⟨s1, s2⟩ := rung_split (rg x)
    have hq : 1 ≤ rg x / B52 := (Nat.le_div_iff_mul_le (by decide)).2 (by omega)
    refine ⟨_, _, rg x / B52, rfl, by omega, hq, ?_, by omega⟩
    have e := dv_high (rg x / B52) (rg x % B52) hq s2
    rw [← s1] at e
    exact e.symm
theorem read_inf {x : Nat} (h : rg x = INF) : double.read x = .infinity (sg x) := by
  rw [read_eq, h, if_neg (by decide), if_neg (by decide), if_pos rfl]
theorem read_nan {x : Nat} (h : Nan x) : double.read x = .nan (sg x) (rg x - INF) := by
  unfold Nan at h
  rw [read_eq, if_neg (by unfold B52 INF at *; omega), if_neg (by omega), if_neg (by omega)]

/-- the signed value, doubled, in units of 2^-1074 -/
def sv (x : Nat) : Int := if sg x then -(dv (rg x) : Int) else (dv (rg x) : Int)

theorem signed_mul (s : Bool) (m u k : Nat) : signed s m u * (2 ^ k : Nat) = if s then -((m * 2 ^ (u + k) : Nat) : Int) else ((m * 2 ^ (u + k) : Nat) : Int) := by
  unfold signed
  have e : m <<< u * 2 ^ k = m * 2 ^ (u + k) := by rw [shl, Nat.mul_assoc, ← Nat.pow_add]
  cases s
  · simp only [Bool.false_eq_true, if_false]; rw [← Int.natCast_mul, e]
  · simp only [if_true]; rw [Int.neg_mul, ← Int.natCast_mul, e]
theorem signed_sv {x m : Nat} {i base : Int} {k kb : Nat} (hr : m * 2 ^ k = dv (rg x)) (hi : i + 1075 = k) (hb : base + 1075 = kb) (hle : base ≤ i) : signed (sg x) m (i - base).toNat * (2 ^ kb : Nat) = sv x := by
  rw [signed_mul, show (i - base).toNat + kb = k from by omega, hr]
  rfl

theorem natAbs_scale (t : Int) (k : Nat) : t.natAbs * 2 ^ k = (t * (2 ^ k : Nat)).natAbs := by
  rw [Int.natAbs_mul]; simp

/-- the sum of two finite numbers -/
theorem add_fin {a b : Nat} (ha : Fin a) (hb : Fin b) :
    double.add a b = some (word (if sv a + sv b = 0 then sg a && sg b else decide (sv a + sv b < 0)) (min (rnd (sv a + sv b).natAbs) INF)) := by
  obtain ⟨m, i, k, r1, e1, k1, v1, _⟩ := read_fin ha
  obtain ⟨n, j, l, r2, e2, l1, v2, _⟩ := read_fin hb
  unfold Format.add
  rw [r1, r2]
  simp only [Datum.sum, Option.map_some, Format.write]
  obtain ⟨kb, hkb⟩ : ∃ kb : Nat, min i j + 1075 = kb := ⟨(min i j + 1075).toNat, by omega⟩
  generalize hT : signed (sg a) m (i - min i j).toNat + signed (sg b) n (j - min i j).toNat = T
  have hs : T * (2 ^ kb : Nat) = sv a + sv b := by
    rw [← hT, Int.add_mul, signed_sv v1 e1 hkb (by omega), signed_sv v2 e2 hkb (by omega)]
  have hp : (0 : Int) < (2 ^ kb : Nat) := by have := Nat.two_pow_pos kb; omega
  rw [nearest_eq _ _ _ kb hkb, natAbs_scale, hs, word_eq]
  have z : T = 0 ↔ sv a + sv b = 0 := by
    rw [← hs]
    constructor
    · intro h; rw [h, Int.zero_mul]
    · intro h; rcases Int.mul_eq_zero.1 h with h | h
      · exact h
      · omega
  have g : T < 0 ↔ sv a + sv b < 0 := by
    rw [← hs]
    constructor
    · intro h; exact Int.mul_neg_of_neg_of_pos h hp
    · intro h; refine Int.lt_of_not_ge fun h2 => ?_
      have := Int.mul_nonneg h2 (Int.le_of_lt hp); omega
  by_cases hz : T = 0
  · rw [if_pos hz, if_pos (z.1 hz)]
  · rw [if_neg hz, if_neg (fun h => hz (z.2 h))]
    by_cases hg : T < 0
    · simp [hg, g.1 hg]
    · have hg' : ¬ sv a + sv b < 0 := fun h => hg (g.2 h)
      simp [hg, hg']

def TWO : Nat := 4611686018427387904
theorem read_two : double.read TWO = .number false B52 (-51) := by decide

/-- the half of a finite number -/
theorem half_fin {x : Nat} (h : Fin x) : double.div x TWO = some (word (sg x) (min (rnd (dv (rg x) / 2)) INF)) := by
  obtain ⟨m, i, k, r1, e1, k1, v1, hm⟩ := read_fin h
  unfold Format.div
  rw [r1, read_two]
  simp only [Datum.quotient, frac]
  rw [if_neg (by decide)]
  simp only [Option.map_some, Format.write]
  have hl : B52.log2 = 52 := by decide
  rw [hl]
  by_cases h0 : m = 0
  · subst h0
    have hd : dv (rg x) = 0 := by rw [← v1]; simp
    have e2 : 2 * ((0 <<< (52 + 2 + 52 - Nat.log2 0)) / B52) + (((0 <<< (52 + 2 + 52 - Nat.log2 0)) % B52 != 0) : Bool).toNat = 0 := by simp
    rw [e2, hd]
    simp [Format.nearest, rnd, rne, word_eq]
  · have hml : m.log2 ≤ 52 := by
      have := (Nat.log2_lt h0).2 (show m < 2 ^ 53 by unfold B52 at hm; omega)
      omega
    obtain ⟨t, ht⟩ : ∃ t, 52 + 2 + 52 - m.log2 = t + 52 := ⟨54 - m.log2, by omega⟩
    have e2 : m <<< (t + 52) = (m * 2 ^ t) * B52 := by rw [shl, Nat.pow_add, ← Nat.mul_assoc]; rfl
    rw [ht, e2, Nat.mul_div_cancel _ (by decide), Nat.mul_mod_left]
    have e3 : 2 * (m * 2 ^ t) + ((0 != 0) : Bool).toNat = m * 2 ^ (t + 1) := by
      rw [show ((0 != 0) : Bool).toNat = 0 from rfl, Nat.add_zero, Nat.pow_succ, Nat.mul_comm 2 (m * 2 ^ t), Nat.mul_assoc]
    rw [e3]
    have e4 : i - (-51) - ((t + 52 : Nat) : Int) - 1 = (i - 1) - ((t + 1 : Nat) : Int) := by omega
    rw [e4, nearest_shift]
    have e5 : dv (rg x) / 2 = m * 2 ^ (k - 1) := by
      obtain ⟨q, rfl⟩ : ∃ q, k = q + 1 := ⟨k - 1, by omega⟩
      rw [← v1, Nat.pow_succ, ← Nat.mul_assoc, Nat.mul_div_cancel _ (by omega)]; rfl
    rw [nearest_eq _ _ _ (k - 1) (by omega), e5, word_eq]
    simp
theorem half_inf {x : Nat} (h : rg x = INF) : double.div x TWO = some (word (sg x) INF) := by
  unfold Format.div
  rw [read_inf h, read_two]
  simp [Datum.quotient, Format.write, word_eq, infr]
theorem half_nan {x : Nat} (h : Nan x) : double.div x TWO = none := by
  unfold Format.div
  rw [read_nan h, read_two]
  rfl
theorem add_nan {a b : Nat} (h : Nan a ∨ Nan b) : double.add a b = none := by
  unfold Format.add
  rcases h with h | h
  · rw [read_nan h]; rfl
  · rw [read_nan h]; cases double.read a <;> rfl
theorem fin_or (x : Nat) : Fin x ∨ rg x = INF ∨ Nan x := by unfold Fin Nan; omega
theorem add_inf_same {a b : Nat} (ha : rg a = INF) (hb : rg b = INF) (hs : sg a = sg b) : double.add a b = some (word (sg a) INF) := by
  unfold Format.add
  rw [read_inf ha, read_inf hb]
  simp [Datum.sum, hs, Format.write, word_eq, infr]
theorem add_inf_opp {a b : Nat} (ha : rg a = INF) (hb : rg b = INF) (hs : sg a ≠ sg b) : double.add a b = none := by
  unfold Format.add
  rw [read_inf ha, read_inf hb]
  simp [Datum.sum, hs]
theorem add_inf_left {a b : Nat} (ha : rg a = INF) (hb : Fin b) : double.add a b = some (word (sg a) INF) := by
  obtain ⟨n, j, l, r2, _⟩ := read_fin hb
  unfold Format.add
  rw [read_inf ha, r2]
  simp [Datum.sum, Format.write, word_eq, infr]
theorem add_inf_right {a b : Nat} (ha : Fin a) (hb : rg b = INF) : double.add a b = some (word (sg b) INF) := by
  obtain ⟨n, j, l, r2, _⟩ := read_fin ha
  unfold Format.add
  rw [read_inf hb, r2]
  simp [Datum.sum, Format.write, word_eq, infr]

theorem sum_comm (d e : Datum) : d.sum e = e.sum d := by
  cases d <;> cases e <;> try rfl
  · rename_i s m i t n j
    simp only [Datum.sum]
    rw [Int.min_comm i j, Int.add_comm, Bool.and_comm s t]
  · rename_i s t
    simp only [Datum.sum]
    by_cases h : s = t
    · subst h; rfl
    · rw [if_neg h, if_neg (fun h2 => h h2.symm)]
theorem add_comm (a b : Nat) : double.add a b = double.add b a := by
  unfold Format.add; rw [sum_comm]

/-! ### order -/
theorem order_fin {a b : Nat} (ha : Fin a) (hb : Fin b) : double.order a b = some (compare (sv a) (sv b)) := by
  obtain ⟨m, i, k, r1, e1, k1, v1, _⟩ := read_fin ha
  obtain ⟨n, j, l, r2, e2, l1, v2, _⟩ := read_fin hb
  unfold Format.order
  rw [r1, r2]
  simp only [Datum.order]
  obtain ⟨kb, hkb⟩ : ∃ kb : Nat, min i j + 1075 = kb := ⟨(min i j + 1075).toNat, by omega⟩
  have hp : (0 : Int) < (2 ^ kb : Nat) := by have := Nat.two_pow_pos kb; omega
  have h1 := signed_sv v1 e1 hkb (show min i j ≤ i by omega)
  have h2 := signed_sv v2 e2 hkb (show min i j ≤ j by omega)
  rw [← h1, ← h2]
  congr 1
  generalize signed (sg a) m (i - min i j).toNat = A
  generalize signed (sg b) n (j - min i j).toNat = B
  generalize hP : ((2 ^ kb : Nat) : Int) = P at hp
  have c1 : A < B ↔ A * P < B * P := ⟨fun h => Int.mul_lt_mul_of_pos_right h hp, fun h => Int.lt_of_mul_lt_mul_right h (Int.le_of_lt hp)⟩
  have c2 : A = B ↔ A * P = B * P := ⟨fun h => by rw [h], fun h => Int.eq_of_mul_eq_mul_right (by omega) h⟩
  simp only [compare, compareOfLessAndEq]
  by_cases g1 : A < B
  · rw [if_pos g1, if_pos (c1.1 g1)]
  · rw [if_neg g1, if_neg (fun h => g1 (c1.2 h))]
    by_cases g2 : A = B
    · rw [if_pos g2, if_pos (c2.1 g2)]
    · rw [if_neg g2, if_neg (fun h => g2 (c2.2 h))]
theorem order_nan {a b : Nat} (h : Nan a ∨ Nan b) : double.order a b = none := by
  unfold Format.order
  rcases h with h | h
  · rw [read_nan h]; rfl
  · rw [read_nan h]; cases double.read a <;> rfl
theorem order_inf_fin {a b : Nat} (ha : rg a = INF) (hb : Fin b) : double.order a b = some (if sg a then .lt else .gt) := by
  obtain ⟨n, j, l, r2, _⟩ := read_fin hb
  unfold Format.order
  rw [read_inf ha, r2]
  rfl
theorem order_fin_inf {a b : Nat} (ha : Fin a) (hb : rg b = INF) : double.order a b = some (if sg b then .gt else .lt) := by
  obtain ⟨n, j, l, r2, _⟩ := read_fin ha
  unfold Format.order
  rw [read_inf hb, r2]
  rfl
theorem order_inf_inf {a b : Nat} (ha : rg a = INF) (hb : rg b = INF) : double.order a b = some (compare (sg b).toNat (sg a).toNat) := by
  unfold Format.order
  rw [read_inf ha, read_inf hb]
  rfl
theorem order_self {a : Nat} (h : ¬ Nan a) : double.order a a = some .eq := by
  rcases fin_or a with h1 | h1 | h1
  · rw [order_fin h1 h1]; simp [compare, compareOfLessAndEq]
  · rw [order_inf_inf h1 h1]; simp [compare, compareOfLessAndEq]
  · exact absurd h1 h
end Go.Proofs.Qxb6621747a.Fp
