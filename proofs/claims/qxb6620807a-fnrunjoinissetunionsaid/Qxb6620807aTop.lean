/-
  Lemmas for the law itself: the bound on the lengths, the copies, the points; the ways on which the law answers at once.
-/
import Derived.Test.Qxb6620807aZZ
namespace Go.Proofs.Qxb6620807a.Wk
open Go.RowKit
set_option linter.unusedVariables false

def fits4 (a b c d : Nat) : Bool := decide (a + b + c + d ≤ 1048576)

set_option maxHeartbeats 2000000 in
theorem bytes23 (s t : ByteArray) (u v : Int) (a b : Option Addr) (la ca lb cb : Nat) (w : World) (hs : s.size ≤ maxLen) (ht : t.size ≤ maxLen) (hla : la ≤ maxLen) (hlb : lb ≤ maxLen) :
    Calls Try.prog 23 #[.string s, .int .u64 u, .slice a la ca, .string t, .int .u64 v, .slice b lb cb] w fun e w' => e = .returned (.bool (fits4 s.size la t.size lb)) ∧ w' = w := by
  unfold maxLen at hs ht hla hlb
  by_cases h1 : s.size ≤ 1048576
  · by_cases h2 : la ≤ 1048576
    · by_cases h3 : s.size + la ≤ 1048576
      · by_cases h4 : t.size ≤ 1048576
        · by_cases h5 : s.size + la + t.size ≤ 1048576
          · by_cases h6 : lb ≤ 1048576
            · by_cases h7 : s.size + la + t.size + lb ≤ 1048576
              · go_enter Try.func23, Try.ntmps23
                go_wp2
                go_ret
                exact ⟨ret_bool (by simp [fits4]; omega), rfl⟩
              · go_enter Try.func23, Try.ntmps23
                go_wp2
                go_ret
                exact ⟨ret_bool (by simp [fits4]; omega), rfl⟩
            · go_enter Try.func23, Try.ntmps23
              go_wp2
              go_ret
              exact ⟨ret_bool (by simp [fits4]; omega), rfl⟩
          · go_enter Try.func23, Try.ntmps23
            go_wp2
            go_ret
            exact ⟨ret_bool (by simp [fits4]; omega), rfl⟩
        · go_enter Try.func23, Try.ntmps23
          go_wp2
          go_ret
          exact ⟨ret_bool (by simp [fits4]; omega), rfl⟩
      · go_enter Try.func23, Try.ntmps23
        go_wp2
        go_ret
        exact ⟨ret_bool (by simp [fits4]; omega), rfl⟩
    · go_enter Try.func23, Try.ntmps23
      go_wp2
      go_ret
      exact ⟨ret_bool (by simp [fits4]; omega), rfl⟩
  · go_enter Try.func23, Try.ntmps23
    go_wp2
    go_ret
    exact ⟨ret_bool (by simp [fits4]; omega), rfl⟩

theorem rd_up {w : World} {B B' : Nat} {ad : Option Addr} {L : Nat} {f : Nat → Int} (h : Rd w B ad L f) (hB : B ≤ B') : Rd w B' ad L f := by
  intro hL
  obtain ⟨b, o, h1, h2, h3⟩ := h hL
  exact ⟨b, o, h1, by omega, h3⟩
theorem rd_below {w w' : World} {B : Nat} {ad : Option Addr} {L : Nat} {f : Nat → Int} (h : Rd w B ad L f) (hb : Below B w w') : Rd w' B ad L f := by
  intro hL
  obtain ⟨b, o, h1, h2, h3⟩ := h hL
  exact ⟨b, o, h1, h2, fun i hi => (hb.cell (p := ⟨b, o + i, none⟩) h2).trans (h3 i hi)⟩

/-- zzCopyU, nil or not -/
theorem copyU_any (ad : Option Addr) (L cap : Nat) (f : Nat → Int) (hn : L ≤ 1048576) (hnil : ad = none → L = 0) (w : World) (hR : Rd w w.heap.size ad L f) :
    Calls Try.prog 25 #[.slice ad L cap] w fun e w' => ∃ (ad' : Option Addr) (cp : Nat), e = .returned (.slice ad' L cp) ∧ L ≤ cp ∧ Rd w' w'.heap.size ad' L f ∧ Below w.heap.size w w' := by
  cases ad with
  | none =>
    refine (copyU_nil L cap w).mono ?_
    rintro e w' ⟨rfl, rfl⟩
    have h0 := hnil rfl
    subst h0
    exact ⟨none, 0, rfl, Nat.le_refl _, fun h => absurd h (by omega), Below.refl _ _⟩
  | some A0 =>
    refine (copyU A0 L cap f hn w hR).mono ?_
    rintro e w' ⟨rfl, hrow, hb, hsz⟩
    exact ⟨_, L, rfl, Nat.le_refl _, fun hL => ⟨w.heap.size, 0, rfl, by omega, fun i hi => by rw [Nat.zero_add]; exact hrow.cell hi⟩, hb⟩

/-- zzRunPoints, its result as a slice -/
theorem points_any (base : Nat) (a0 : Option Addr) (n c0 : Nat) (xs : List Value) (up : Int) (ad : Option Addr) (L cap : Nat) (f : Nat → Int) (hup : 0 ≤ up ∧ up ≤ 18446744073709551615) (hz : U64 f) (hL : L ≤ 1048576) (hn : n ≤ 10000000) (w : World)
    (hR : Rd w base ad L f) (hown : w.ownsRow base 41 1 (.slice a0 n c0) n xs) (hel : Els xs) (hbase : base ≤ w.heap.size) :
    Calls Try.prog 27 #[.slice a0 n c0, .int .u64 up, .slice ad L cap] w fun e w' => ∃ (a1 : Option Addr) (n' c1 : Nat) (xs' : List Value), e = .returned (.slice a1 n' c1) ∧ w'.ownsRow base 41 1 (.slice a1 n' c1) n' xs' ∧ Els xs' ∧ n' ≤ n + 3 + 2 * L ∧ Below base w w' := by
  refine (runPoints base (.slice a0 n c0) n xs up ad L cap f hup hz hL hn w hR hown hel hbase).mono ?_
  rintro e w' ⟨v', n', xs', rfl, ho, he, hn', hb⟩
  obtain ⟨hl, h1 | ⟨g, cp, cur, h1, h2⟩⟩ := ho
  · obtain ⟨rfl, rfl⟩ := h1
    exact ⟨none, 0, 0, xs', rfl, ⟨hl, .inl ⟨rfl, rfl⟩⟩, he, hn', hb⟩
  · subst h1
    exact ⟨_, n', cp, xs', rfl, ⟨hl, .inr ⟨g, cp, cur, rfl, h2⟩⟩, he, hn', hb⟩

/-- a cell of the points -/
theorem own_cell {w : World} {base : Nat} {a1 : Option Addr} {n c1 : Nat} {xs : List Value} (h : w.ownsRow base 41 1 (.slice a1 n c1) n xs) (he : Els xs) :
    0 < n → ∃ g, a1 = some ⟨g, 0, none⟩ ∧ ∀ j, j < n → ∃ y : Int, w.cell? ⟨g, j, none⟩ = some (.int .u64 y) := by
  intro hn
  obtain ⟨hl, h1⟩ := h
  rcases h1 with ⟨h1, h2⟩ | ⟨g, cp, cur, h1, h2⟩
  · omega
  · cases h1
    refine ⟨g, rfl, fun j hj => ?_⟩
    have hown : w.ownsRow base 41 1 (.slice (some ⟨g, 0, none⟩) n c1) n xs := ⟨hl, .inr ⟨g, c1, cur, rfl, h2⟩⟩
    have hc := hown.cellAt j (by omega)
    have hj' : j < xs.length := by omega
    rw [List.getElem?_eq_getElem hj'] at hc
    obtain ⟨y, hy⟩ := he xs[j] (List.getElem_mem hj')
    exact ⟨y, by rw [hc, hy]⟩

theorem dec_of (p : Prop) : ∃ v : Bool, (p ↔ v = true) := by
  by_cases h : p
  · exact ⟨true, by simp [h]⟩
  · exact ⟨false, by simp [h]⟩
end Go.Proofs.Qxb6620807a.Wk
