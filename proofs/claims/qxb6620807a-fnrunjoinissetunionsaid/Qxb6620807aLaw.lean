/-
  The walk of the law itself, out of the contracts.
-/
import Derived.Test.Qxb6620807aTop
namespace Go.Proofs.Qxb6620807a.Wk
open Go.RowKit
set_option linter.unusedVariables false

set_option maxHeartbeats 2000000 in
/-- too long: true at once -/
theorem law_far (s t : ByteArray) (u v : Int) (a b : Option Addr) (la ca lb cb : Nat) (w : World) (hs : s.size ≤ maxLen) (ht : t.size ≤ maxLen) (hla : la ≤ maxLen) (hlb : lb ≤ maxLen) (hf : fits4 s.size la t.size lb = false) :
    Calls Try.prog 7 #[.string s, .int .u64 u, .slice a la ca, .string t, .int .u64 v, .slice b lb cb] w fun e w' => e = .returned (.bool true) ∧ Below w.heap.size w w' := by
  go_enter Try.func7, Try.ntmps7
  go_wp2_with (go_at_call 23; refine (bytes23 _ _ _ _ _ _ _ _ _ _ _ hs ht hla hlb).mono ?_; rintro e w' ⟨rfl, rfl⟩)
  go_ret
  exact ⟨rfl, Below.refl _ _⟩

set_option maxHeartbeats 2000000 in
theorem law_rows (s t : ByteArray) (u v : Int) (a b : Option Addr) (la ca lb cb : Nat) (w : World) (hf : s.size + la + t.size + lb ≤ 1048576) (hl : 65536 < la ∨ 65536 < lb) :
    Calls Try.prog 7 #[.string s, .int .u64 u, .slice a la ca, .string t, .int .u64 v, .slice b lb cb] w fun e w' => e = .returned (.bool true) ∧ Below w.heap.size w w' := by
  have hs : s.size ≤ maxLen := by unfold maxLen; omega
  have ht : t.size ≤ maxLen := by unfold maxLen; omega
  have hla : la ≤ maxLen := by unfold maxLen; omega
  have hlb : lb ≤ maxLen := by unfold maxLen; omega
  have hfit : fits4 s.size la t.size lb = true := by simp [fits4]; omega
  by_cases h1 : 65536 < la
  · have h1I : (65536 : Int) < (la : Int) := by omega
    go_enter Try.func7, Try.ntmps7
    go_wp2_with (go_at_call 23; refine (bytes23 _ _ _ _ _ _ _ _ _ _ _ hs ht hla hlb).mono ?_; rintro e w' ⟨rfl, rfl⟩)
    go_ret
    exact ⟨rfl, Below.refl _ _⟩
  · have h1I : ¬ (65536 : Int) < (la : Int) := by omega
    have h2I : (65536 : Int) < (lb : Int) := by omega
    go_enter Try.func7, Try.ntmps7
    go_wp2_with (go_at_call 23; refine (bytes23 _ _ _ _ _ _ _ _ _ _ _ hs ht hla hlb).mono ?_; rintro e w' ⟨rfl, rfl⟩)
    go_ret
    exact ⟨rfl, Below.refl _ _⟩

set_option maxHeartbeats 2000000 in
theorem law_sum (s t : ByteArray) (u v : Int) (a b : Option Addr) (la ca lb cb : Nat) (w : World) (hf : s.size + la + t.size + lb ≤ 1048576) (h1 : la ≤ 65536) (h2 : lb ≤ 65536) (h3 : 1048576 < s.size + t.size + 8 * la + 8 * lb) :
    Calls Try.prog 7 #[.string s, .int .u64 u, .slice a la ca, .string t, .int .u64 v, .slice b lb cb] w fun e w' => e = .returned (.bool true) ∧ Below w.heap.size w w' := by
  have hs : s.size ≤ maxLen := by unfold maxLen; omega
  have ht : t.size ≤ maxLen := by unfold maxLen; omega
  have hla : la ≤ maxLen := by unfold maxLen; omega
  have hlb : lb ≤ maxLen := by unfold maxLen; omega
  have hfit : fits4 s.size la t.size lb = true := by simp [fits4]; omega
  have h1I : ¬ (65536 : Int) < (la : Int) := by omega
  have h2I : ¬ (65536 : Int) < (lb : Int) := by omega
  have h4I : ¬ (1048576 : Int) < (s.size : Int) := by omega
  have h5I : ¬ (1048576 : Int) < (t.size : Int) := by omega
  have h6I : (1048576 : Int) < (s.size : Int) + (t.size : Int) + 8 * (la : Int) + 8 * (lb : Int) := by omega
  go_enter Try.func7, Try.ntmps7
  go_wp2_with (go_at_call 23; refine (bytes23 _ _ _ _ _ _ _ _ _ _ _ hs ht hla hlb).mono ?_; rintro e w' ⟨rfl, rfl⟩)
  go_ret
  exact ⟨rfl, Below.refl _ _⟩

set_option maxHeartbeats 2000000 in
theorem law_actor (s t : ByteArray) (u v : Int) (a b : Option Addr) (la ca lb cb : Nat) (w : World) (hf : s.size + la + t.size + lb ≤ 1048576) (h1 : la ≤ 65536) (h2 : lb ≤ 65536) (h3 : s.size + t.size + 8 * la + 8 * lb ≤ 1048576) (hne : (s.toList == t.toList) = false) :
    Calls Try.prog 7 #[.string s, .int .u64 u, .slice a la ca, .string t, .int .u64 v, .slice b lb cb] w fun e w' => e = .returned (.bool true) ∧ Below w.heap.size w w' := by
  have hs : s.size ≤ maxLen := by unfold maxLen; omega
  have ht : t.size ≤ maxLen := by unfold maxLen; omega
  have hla : la ≤ maxLen := by unfold maxLen; omega
  have hlb : lb ≤ maxLen := by unfold maxLen; omega
  have hfit : fits4 s.size la t.size lb = true := by simp [fits4]; omega
  have h1I : ¬ (65536 : Int) < (la : Int) := by omega
  have h2I : ¬ (65536 : Int) < (lb : Int) := by omega
  have h4I : ¬ (1048576 : Int) < (s.size : Int) := by omega
  have h5I : ¬ (1048576 : Int) < (t.size : Int) := by omega
  have h6I : ¬ (1048576 : Int) < (s.size : Int) + (t.size : Int) + 8 * (la : Int) + 8 * (lb : Int) := by omega
  go_enter Try.func7, Try.ntmps7
  go_wp2_with (go_at_call 23; refine (bytes23 _ _ _ _ _ _ _ _ _ _ _ hs ht hla hlb).mono ?_; rintro e w' ⟨rfl, rfl⟩)
  go_ret
  exact ⟨rfl, Below.refl _ _⟩

theorem below_drewN' {B : Nat} {a w : World} (h : Below B a w) (n : Nat) : Below B a (w.drewN n) := ⟨h.os, h.tape, h.output, h.size, h.block⟩

set_option maxHeartbeats 2000000 in
theorem law_bad1 (s : ByteArray) (u v : Int) (a b : Option Addr) (la ca lb cb : Nat) (fa fb : Nat → Int) (w : World) (hf : s.size + la + s.size + lb ≤ 1048576) (h1 : la ≤ 65536) (h2 : lb ≤ 65536) (h3 : s.size + s.size + 8 * la + 8 * lb ≤ 1048576)
    (hu : 0 ≤ u ∧ u ≤ 18446744073709551615) (hza : Hid (U64 fa)) (hRa : Hid (Rd w w.heap.size a la fa)) (hva : Hid (¬ Va u la fa)) :
    Calls Try.prog 7 #[.string s, .int .u64 u, .slice a la ca, .string s, .int .u64 v, .slice b lb cb] w fun e w' => e = .returned (.bool true) ∧ Below w.heap.size w w' := by
  have hs' : s.size ≤ maxLen := by unfold maxLen; omega
  have hla' : la ≤ maxLen := by unfold maxLen; omega
  have hlb' : lb ≤ maxLen := by unfold maxLen; omega
  have hfit : fits4 s.size la s.size lb = true := by simp [fits4]; omega
  have h1I : ¬ (65536 : Int) < (la : Int) := by omega
  have h2I : ¬ (65536 : Int) < (lb : Int) := by omega
  have h4I : ¬ (1048576 : Int) < (s.size : Int) := by omega
  have h6I : ¬ (1048576 : Int) < (s.size : Int) + (s.size : Int) + 8 * (la : Int) + 8 * (lb : Int) := by omega
  go_enter Try.func7, Try.ntmps7
  go_wp2_with (go_at_call 23; refine (bytes23 _ _ _ _ _ _ _ _ _ _ _ hs' hs' hla' hlb').mono ?_; rintro e w' ⟨rfl, rfl⟩)
  refine (runValid u a la ca fa false hu hza (by omega) _ _ hRa (by exact ⟨fun h => absurd h hva.out, fun h => by cases h⟩)).mono ?_
  rintro e w1 ⟨rfl, n, rfl⟩
  go_wp2
  go_ret
  exact ⟨rfl, below_drewN' (Below.refl _ _) _⟩

set_option maxHeartbeats 2000000 in
theorem law_bad2 (s : ByteArray) (u v : Int) (a b : Option Addr) (la ca lb cb : Nat) (fa fb : Nat → Int) (w : World) (hf : s.size + la + s.size + lb ≤ 1048576) (h1 : la ≤ 65536) (h2 : lb ≤ 65536) (h3 : s.size + s.size + 8 * la + 8 * lb ≤ 1048576)
    (hu : 0 ≤ u ∧ u ≤ 18446744073709551615) (hv : 0 ≤ v ∧ v ≤ 18446744073709551615) (hza : Hid (U64 fa)) (hzb : Hid (U64 fb)) (hRa : Hid (Rd w w.heap.size a la fa)) (hRb : Hid (Rd w w.heap.size b lb fb)) (hva : Hid (Va u la fa)) (hvb : Hid (¬ Va v lb fb)) :
    Calls Try.prog 7 #[.string s, .int .u64 u, .slice a la ca, .string s, .int .u64 v, .slice b lb cb] w fun e w' => e = .returned (.bool true) ∧ Below w.heap.size w w' := by
  have hs' : s.size ≤ maxLen := by unfold maxLen; omega
  have hla' : la ≤ maxLen := by unfold maxLen; omega
  have hlb' : lb ≤ maxLen := by unfold maxLen; omega
  have hfit : fits4 s.size la s.size lb = true := by simp [fits4]; omega
  have h1I : ¬ (65536 : Int) < (la : Int) := by omega
  have h2I : ¬ (65536 : Int) < (lb : Int) := by omega
  have h4I : ¬ (1048576 : Int) < (s.size : Int) := by omega
  have h6I : ¬ (1048576 : Int) < (s.size : Int) + (s.size : Int) + 8 * (la : Int) + 8 * (lb : Int) := by omega
  go_enter Try.func7, Try.ntmps7
  go_wp2_with (go_at_call 23; refine (bytes23 _ _ _ _ _ _ _ _ _ _ _ hs' hs' hla' hlb').mono ?_; rintro e w' ⟨rfl, rfl⟩)
  refine (runValid u a la ca fa true hu hza (by omega) _ _ hRa (by exact ⟨fun _ => rfl, fun _ => hva.out⟩)).mono ?_
  rintro e w1 ⟨rfl, n, rfl⟩
  go_wp2_with fail
  refine (runValid v b lb cb fb false hv hzb (by omega) _ _ (by exact hRb.out) (by exact ⟨fun h => absurd h hvb.out, fun h => by cases h⟩)).mono ?_
  rintro e w1 ⟨rfl, n2, rfl⟩
  go_wp2
  go_ret
  exact ⟨rfl, below_drewN' (Below.refl _ _) _⟩

set_option maxRecDepth 100000 in
set_option maxHeartbeats 4000000 in
theorem law_main (s : ByteArray) (u v : Int) (a b : Option Addr) (la ca lb cb : Nat) (fa fb : Nat → Int) (w : World) (hf : s.size + la + s.size + lb ≤ 1048576) (h1 : la ≤ 65536) (h2 : lb ≤ 65536) (h3 : s.size + s.size + 8 * la + 8 * lb ≤ 1048576)
    (hu : 0 ≤ u ∧ u ≤ 18446744073709551615) (hv : 0 ≤ v ∧ v ≤ 18446744073709551615) (hza : Hid (U64 fa)) (hzb : Hid (U64 fb)) (hRa : Hid (Rd w w.heap.size a la fa)) (hRb : Hid (Rd w w.heap.size b lb fb)) (hva : Hid (Va u la fa)) (hvb : Hid (Va v lb fb))
    (hna : Hid (a = none → la = 0)) (hnb : Hid (b = none → lb = 0))
    (hjoin : Hid (∀ (w : World) (a' b' : Option Addr) (ca' cb' : Nat), la ≤ ca' → lb ≤ cb' → Rd w w.heap.size a' la fa → Rd w w.heap.size b' lb fb →
      Calls Try.prog 26 #[.string s, .int .u64 u, .slice a' la ca', .string s, .int .u64 v, .slice b' lb cb'] w fun e w' => ZPost w s (fun x => Has u la fa x ∨ Has v lb fb x) (la + lb) e w')) :
    Calls Try.prog 7 #[.string s, .int .u64 u, .slice a la ca, .string s, .int .u64 v, .slice b lb cb] w fun e w' => e = .returned (.bool true) ∧ Below w.heap.size w w' := by
  have hs' : s.size ≤ maxLen := by unfold maxLen; omega
  have hla' : la ≤ maxLen := by unfold maxLen; omega
  have hlb' : lb ≤ maxLen := by unfold maxLen; omega
  have hfit : fits4 s.size la s.size lb = true := by simp [fits4]; omega
  have h1I : ¬ (65536 : Int) < (la : Int) := by omega
  have h2I : ¬ (65536 : Int) < (lb : Int) := by omega
  have h4I : ¬ (1048576 : Int) < (s.size : Int) := by omega
  have h6I : ¬ (1048576 : Int) < (s.size : Int) + (s.size : Int) + 8 * (la : Int) + 8 * (lb : Int) := by omega
  go_enter Try.func7, Try.ntmps7
  go_wp2_with (go_at_call 23; refine (bytes23 _ _ _ _ _ _ _ _ _ _ _ hs' hs' hla' hlb').mono ?_; rintro e w' ⟨rfl, rfl⟩)
  refine (runValid u a la ca fa true hu hza (by omega) _ _ hRa (by exact ⟨fun _ => rfl, fun _ => hva.out⟩)).mono ?_
  rintro e w1 ⟨rfl, n, rfl⟩
  go_wp2_with fail
  refine (runValid v b lb cb fb true hv hzb (by omega) _ _ (by exact hRb.out) (by exact ⟨fun _ => rfl, fun _ => hvb.out⟩)).mono ?_
  rintro e w1 ⟨rfl, n2, rfl⟩
  go_wp2_with fail
  have q1 : Rd (w'.drewN (n + n2)) (w'.drewN (n + n2)).heap.size a la fa := hRa.out
  have q2 : Rd (w'.drewN (n + n2)) (w'.drewN (n + n2)).heap.size b lb fb := hRb.out
  have q3 : Below w'.heap.size w' (w'.drewN (n + n2)) := below_drewN' (Below.refl _ _) _
  generalize w'.drewN (n + n2) = wA at q1 q2 q3 ⊢
  refine (copyU_any a la ca fa (by omega) hna.out wA q1).mono ?_
  rintro e wB ⟨a', ca', rfl, hca, q4, q5⟩
  have q6 := rd_below q2 q5
  have q7 : Below w'.heap.size w' wB := q3.trans (q5.mono q3.size)
  have Q4 : Hid (Rd wB wB.heap.size a' la fa) := q4
  have Q6 : Hid (Rd wB wB.heap.size b lb fb) := rd_up q6 q5.size
  have Q7 : Hid (Below w'.heap.size w' wB) := q7
  clear q1 q2 q3 q4 q5 q6 q7
  go_wp2_with fail
  refine (copyU_any b lb cb fb (by omega) hnb.out wB Q6.out).mono ?_
  rintro e wC ⟨b', cb', rfl, hcb, q4, q5⟩
  have R1 : Hid (Rd wC wC.heap.size a' la fa) := rd_up (rd_below Q4.out q5) q5.size
  have R2 : Hid (Rd wC wC.heap.size b' lb fb) := q4
  have R3 : Hid (Below w'.heap.size w' wC) := Q7.out.trans (q5.mono Q7.out.size)
  clear q4 q5 Q4 Q6 Q7
  go_wp2_with fail
  refine (hjoin.out wC a' b' ca' cb' hca hcb R1.out R2.out).mono ?_
  rintro e wD ⟨U, L, f, ad, cp, rfl, q1, q2, q3, q4, q5, q6, q7⟩
  have T1 : Hid (Rd wD wD.heap.size a' la fa) := rd_up (rd_below R1.out q7) q7.size
  have T2 : Hid (Rd wD wD.heap.size b' lb fb) := rd_up (rd_below R2.out q7) q7.size
  have T3 : Hid (Rd wD wD.heap.size ad L f) := q1
  have T4 : Hid (Below w'.heap.size w' wD) := R3.out.trans (q7.mono R3.out.size)
  have T5 : Hid (U64 f) := q2
  have T6 : Hid (Va U L f) := q5
  have T7 : Hid (∀ x, Has U L f x ↔ Has u la fa x ∨ Has v lb fb x) := q6
  clear q1 q2 q5 q6 q7 R1 R2 R3
  go_wp2_with fail
  refine (runValid U ad L cp f true q3 T5 (by omega) _ _ (by exact T3.out) (by exact ⟨fun _ => rfl, fun _ => T6.out⟩)).mono ?_
  rintro e w1 ⟨rfl, n3, rfl⟩
  go_wp2_with fail
  have q1 : Rd (wD.drewN n3) (wD.drewN n3).heap.size a' la fa := T1.out
  have q2 : Rd (wD.drewN n3) (wD.drewN n3).heap.size b' lb fb := T2.out
  have q5 : Rd (wD.drewN n3) (wD.drewN n3).heap.size ad L f := T3.out
  have q6 : Below w'.heap.size w' (wD.drewN n3) := below_drewN' T4.out _
  clear T1 T2 T3 T4
  generalize wD.drewN n3 = wE at q1 q2 q5 q6 ⊢
  refine (points_any wE.heap.size none 0 0 [] U ad L cp f q3 T5.out (by omega) (by omega) wE q5 (World.ownsRow_nil _ _ _ _) (fun u hu => absurd hu (by simp)) (Nat.le_refl _)).mono ?_
  rintro e wF ⟨p1, m1, k1, x1, rfl, o1, e1, hm1, b1⟩
  have S1 : Hid (Rd wF wE.heap.size a' la fa) := rd_below q1 b1
  have S2 : Hid (Rd wF wE.heap.size b' lb fb) := rd_below q2 b1
  have S3 : Hid (Rd wF wE.heap.size ad L f) := rd_below q5 b1
  have S4 : Hid (Below w'.heap.size w' wF) := q6.trans (b1.mono q6.size)
  have S5 : Hid (wF.ownsRow wE.heap.size 41 1 (.slice p1 m1 k1) m1 x1) := o1
  have S6 : Hid (Els x1) := e1
  have S7 : wE.heap.size ≤ wF.heap.size := b1.size
  have S8 : Hid (w'.heap.size ≤ wE.heap.size) := q6.size
  clear q1 q2 q5 q6 o1 e1 b1
  go_wp2_with fail
  refine (points_any wE.heap.size p1 m1 k1 x1 u a' la ca' fa hu hza.out (by omega) (by omega) wF S1.out S5.out S6.out S7).mono ?_
  rintro e wG ⟨p2, m2, k2, x2, rfl, o1, e1, hm2, b1⟩
  have V1 : Hid (Rd wG wE.heap.size a' la fa) := rd_below S1.out b1
  have V2 : Hid (Rd wG wE.heap.size b' lb fb) := rd_below S2.out b1
  have V3 : Hid (Rd wG wE.heap.size ad L f) := rd_below S3.out b1
  have V4 : Hid (Below w'.heap.size w' wG) := S4.out.trans (b1.mono S8.out)
  have V5 : Hid (wG.ownsRow wE.heap.size 41 1 (.slice p2 m2 k2) m2 x2) := o1
  have V6 : Hid (Els x2) := e1
  have V7 : wE.heap.size ≤ wG.heap.size := Nat.le_trans S7 b1.size
  clear o1 e1 b1 S1 S2 S3 S4 S5 S6 S7
  go_wp2_with fail
  refine (points_any wE.heap.size p2 m2 k2 x2 v b' lb cb' fb hv hzb.out (by omega) (by omega) wG V2.out V5.out V6.out V7).mono ?_
  rintro e wH ⟨p3, m3, k3, x3, rfl, o1, e1, hm3, b1⟩
  have W1 : Hid (Rd wH wE.heap.size a' la fa) := rd_below V1.out b1
  have W2 : Hid (Rd wH wE.heap.size b' lb fb) := rd_below V2.out b1
  have W3 : Hid (Rd wH wE.heap.size ad L f) := rd_below V3.out b1
  have W4 : Hid (Below w'.heap.size w' wH) := V4.out.trans (b1.mono S8.out)
  have W5 : Hid (0 < m3 → ∃ g, p3 = some ⟨g, 0, none⟩ ∧ ∀ j, j < m3 → ∃ y : Int, wH.cell? ⟨g, j, none⟩ = some (.int .u64 y)) := own_cell o1 e1
  clear o1 e1 b1 V1 V2 V3 V4 V5 V6 V7 S8
  have hm : m3 ≤ 10000000 := by omega
  clear hm1 hm2 hm3
  by_cases h0 : m3 = 0
  · subst h0
    go_wp2
    refine wp_loop_rounds 1 ?_
    rw [rounds_succ]
    go_wp2
    go_ret
    exact ⟨rfl, W4.out⟩
  · have hlen : 0 < m3 := by omega
    clear h0
    obtain ⟨g, rfl, hc'⟩ := W5.out hlen
    have hc : Hid (∀ j, j < m3 → ∃ y : Int, wH.cell? ⟨g, j, none⟩ = some (.int .u64 y)) := hc'
    clear hc' W5
    have A1 : Hid (Asc la fa) := va_asc hva.out
    have A2 : Hid (Asc lb fb) := va_asc hvb.out
    have A3 : Hid (Asc L f) := va_asc T6.out
    go_wp2
    go_loop [17] (fun i => ∃ k : Nat, k ≤ m3 ∧ i = .int .i64 k) (fun i => m3 - (intOf i).toNat)
    case atStart => exact ⟨0, Nat.zero_le _, rfl⟩
    case round =>
      obtain ⟨k, hk, rfl⟩ := hrel
      by_cases hlt : k < m3
      · have hltI : (k : Int) < (m3 : Int) := by omega
        obtain ⟨y, hy⟩ := hc.out k hlt
        by_cases pA : Has u la fa y
        · have HA : Hid (Has u la fa y) := pA
          have HC : Hid (Has U L f y) := (T7.out y).2 (.inl pA)
          clear pA
          go_wp2_with fail
          refine (runHas U ad L cp f y true (by omega) _ _ W3 A3 (by exact ⟨fun _ => rfl, fun _ => HC.out⟩)).mono ?_
          rintro e wx ⟨rfl, rfl⟩
          go_wp2_with fail
          refine (runHas u a' la ca' fa y true (by omega) _ _ W1 A1 (by exact ⟨fun _ => rfl, fun _ => HA.out⟩)).mono ?_
          rintro e wx ⟨rfl, rfl⟩
          go_wp2
          go_round
          case rel => exact ⟨k + 1, by omega, by go_num⟩
          case measure => simp [intOf]; omega
        · by_cases pB : Has v lb fb y
          · have HA : Hid (¬ Has u la fa y) := pA
            have HB : Hid (Has v lb fb y) := pB
            have HC : Hid (Has U L f y) := (T7.out y).2 (.inr pB)
            clear pA pB
            go_wp2_with fail
            refine (runHas U ad L cp f y true (by omega) _ _ W3 A3 (by exact ⟨fun _ => rfl, fun _ => HC.out⟩)).mono ?_
            rintro e wx ⟨rfl, rfl⟩
            go_wp2_with fail
            refine (runHas u a' la ca' fa y false (by omega) _ _ W1 A1 (by exact ⟨fun h => absurd h HA.out, fun h => by cases h⟩)).mono ?_
            rintro e wx ⟨rfl, rfl⟩
            go_wp2_with fail
            refine (runHas v b' lb cb' fb y true (by omega) _ _ W2 A2 (by exact ⟨fun _ => rfl, fun _ => HB.out⟩)).mono ?_
            rintro e wx ⟨rfl, rfl⟩
            go_wp2
            go_round
            case rel => exact ⟨k + 1, by omega, by go_num⟩
            case measure => simp [intOf]; omega
          · have HA : Hid (¬ Has u la fa y) := pA
            have HB : Hid (¬ Has v lb fb y) := pB
            have HC : Hid (¬ Has U L f y) := fun h => ((T7.out y).1 h).elim pA pB
            clear pA pB
            go_wp2_with fail
            refine (runHas U ad L cp f y false (by omega) _ _ W3 A3 (by exact ⟨fun h => absurd h HC.out, fun h => by cases h⟩)).mono ?_
            rintro e wx ⟨rfl, rfl⟩
            go_wp2_with fail
            refine (runHas u a' la ca' fa y false (by omega) _ _ W1 A1 (by exact ⟨fun h => absurd h HA.out, fun h => by cases h⟩)).mono ?_
            rintro e wx ⟨rfl, rfl⟩
            go_wp2_with fail
            refine (runHas v b' lb cb' fb y false (by omega) _ _ W2 A2 (by exact ⟨fun h => absurd h HB.out, fun h => by cases h⟩)).mono ?_
            rintro e wx ⟨rfl, rfl⟩
            go_wp2
            go_round
            case rel => exact ⟨k + 1, by omega, by go_num⟩
            case measure => simp [intOf]; omega
      · go_wp2
        go_ret
        exact ⟨rfl, W4.out⟩
end Go.Proofs.Qxb6620807a.Wk
