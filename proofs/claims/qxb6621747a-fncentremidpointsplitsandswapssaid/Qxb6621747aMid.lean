/-
  The walk of the law 'midpoint: it splits and swaps'.
-/
import Derived.Test.Qxb6621747aZZ
namespace Go.Proofs.Qxb6621747a.Wk
open Go.RowKit
open Fp
set_option linter.unusedVariables false

theorem Rd.lift {w w' : World} {B : Nat} {ad : Option Addr} {L : Nat} {f : Nat → Nat} (h : Rd w B ad L f) (hb : Below B w w') (hs : B ≤ w'.heap.size) : Rd w' w'.heap.size ad L f := by
  intro h0
  obtain ⟨b, o, h1, h2, h3⟩ := h h0
  exact ⟨b, o, h1, by omega, fun i hi => (hb.cell (p := ⟨b, o + i, none⟩) h2).trans (h3 i hi)⟩

theorem Rd.pre {w : World} {B : Nat} {ad : Option Addr} {L K : Nat} {f : Nat → Nat} (h : Rd w B ad L f) (hK : K ≤ L) : Rd w B ad K f := by
  intro h0
  obtain ⟨b, o, h1, h2, h3⟩ := h (by omega)
  exact ⟨b, o, h1, h2, fun i hi => h3 i (by omega)⟩
theorem size26 (w : World) : (sizeOf (Try.prog.elem 22)).run Try.prog w = .ok 1 w := by kernel_rfl
theorem add_zero (A : Option Addr) : A.map (·.add 0) = A := by cases A <;> simp [Addr.add]
theorem slice_lo (A : Option Addr) (L K : Nat) (hK : K ≤ L) (w : World) : (Instr.slice 22 (.slice A L L) none (some (.int .i64 (K : Int))) none).run Try.prog w = .ok (.slice A K L) w := by
  rw [run_slice_h (P := Try.prog) w 22 A L L Try.underlying22 .i64 K (by omega) (by omega), size26]
  simp [Result.andThen, sliced, add_zero]

theorem slice_hi (A : Option Addr) (L K M : Nat) (hK : K + M = L) (w0 : World) (f : Nat → Nat) (hR : Rd w0 w0.heap.size A L f) :
    ∃ A2, (∀ w, (Instr.slice 22 (.slice A L L) (some (.int .i64 (K : Int))) (some (.int .i64 (L : Int))) none).run Try.prog w = .ok (.slice A2 M M) w) ∧ Rd w0 w0.heap.size A2 M (fun i => f (K + i)) := by
  have eM : L - K = M := by omega
  refine ⟨_, fun w => by
    rw [run_slice_lh (P := Try.prog) w 22 A L L Try.underlying22 .i64 .i64 K L (by omega) (by omega) (by omega), size26]
    simp only [Result.andThen, sliced, Int.toNat_natCast, Nat.mul_one, eM]
    rfl, ?_⟩
  intro h0
  obtain ⟨b, o, h1, h2, h3⟩ := hR (by omega)
  subst h1
  rw [if_neg (by omega)]
  refine ⟨b, o + K, ?_, h2, fun i hi => ?_⟩
  · simp only [Option.map, Addr.add]
    by_cases e : K = 0
    · subst e; rfl
    · rw [if_neg e]
  · rw [Nat.add_assoc]; exact h3 (K + i) (by omega)

theorem below_drewN {B : Nat} {a w : World} (h : Below B a w) (n : Nat) : Below B a (w.drewN n) := ⟨h.os, h.tape, h.output, h.size, h.block⟩

set_option maxHeartbeats 40000000 in
set_option maxRecDepth 100000 in
theorem mid (a b : Option Addr) (la ca lb cb : Nat) (fa fb : Nat → Nat) (kk : Int) (hkk : Hid ((Lit.int .i64 kk).wf = true)) (hna : Hid (a = none → la = 0 ∧ ca = 0)) (hnb : Hid (b = none → lb = 0 ∧ cb = 0)) (hla : la ≤ maxLen) (hlb : lb ≤ maxLen) (w : World)
    (hRa : Hid (Rd w w.heap.size a la fa)) (hRb : Hid (Rd w w.heap.size b lb fb)) (hwa : Hid (W64 fa)) (hwb : Hid (W64 fb)) :
    Calls Try.prog 3 #[.slice a la ca, .slice b lb cb, .int .i64 kk] w fun e w' => e = .returned (.bool true) ∧ Below w.heap.size w w' := by
  have hby := bytes5 a b la ca lb cb kk w hla hlb
  unfold maxLen at hla hlb
  by_cases f0 : la + lb ≤ 1048576
  · have f0' : fits2 la lb = true := by simp [fits2, f0]
    rw [f0'] at hby
    by_cases f1 : la ≤ 65536
    · by_cases f2 : lb ≤ 65536
      · have hmka := make_f la (by omega)
        have hmkb := make_f lb (by omega)
        go_enter Try.func3, Try.ntmps3
        go_upto_if 32 with (go_at_call 5; refine hby.mono ?_; rintro e w' ⟨rfl, hw'⟩; rw [hw']; clear hw' w')
        go_cut [0, 7] from 31 (fun s0 s7 wc => ∃ A', s0 = .slice A' la la ∧ Hid (Rd wc wc.heap.size A' la fa) ∧ Hid (Below w.heap.size w wc))
        case first =>
          cases a with
          | none =>
            obtain ⟨z1, z2⟩ := hna.out rfl
            subst z1
            subst z2
            go_wp2
            go_meet
            case rel => exact ⟨_, rfl, hRa, Below.refl _ _⟩
          | some A0 =>
            obtain ⟨w1, hrun, hr1, hb1, hz1⟩ := copyF w (some A0) la ca fa hRa.out 3
            have HH : Hid (_ ∧ _) := And.intro hr1 hb1
            clear hr1 hb1 hz1
            go_wp2
            go_meet
            case rel => exact ⟨_, rfl, HH.out.1, HH.out.2⟩
        case rest =>
          obtain ⟨A, rfl, hRA, hBA⟩ := hcut
          have hRb1 : Hid (Rd wc wc.heap.size b lb fb) := hRb.out.lift hBA.out hBA.out.size
          clear hRa hRb
          go_upto_if 41 with fail
          go_cut [1, 8] from 40 (fun s1 s6 wd => ∃ B', s1 = .slice B' lb lb ∧ Hid (Rd wd wd.heap.size A la fa) ∧ Hid (Rd wd wd.heap.size B' lb fb) ∧ Hid (Below w.heap.size w wd))
          case first =>
            cases b with
            | none =>
              obtain ⟨z1, z2⟩ := hnb.out rfl
              subst z1
              subst z2
              go_wp2
              go_meet
              case rel => exact ⟨_, rfl, hRA, hRb1, hBA⟩
            | some B0 =>
              obtain ⟨w1, hrun, hr1, hb1, hz1⟩ := copyF wc (some B0) lb cb fb hRb1.out 3
              have HH : Hid (_ ∧ _ ∧ _) := And.intro hr1 (And.intro (hRA.out.lift hb1 hb1.size) (hBA.out.trans (hb1.mono hBA.out.size)))
              clear hr1 hb1 hz1
              go_wp2
              go_meet
              case rel => exact ⟨_, rfl, HH.out.2.1, HH.out.1, HH.out.2.2⟩
          case rest =>
            obtain ⟨B, rfl, hRA1, hRB1, hBB⟩ := hcut
            clear hRA hRb1 hBA hmka hmkb hby hna hnb
            by_cases hl : la = lb
            · subst hl
              have hzz := zz A B la la la la fa fb la (by show _ = _; simp) (by omega) (by omega) wc hRA1 hRB1
              have hzz2 : Hid (∀ w', Below wc.heap.size wc w' → Calls Try.prog 6 #[.slice B la la, .slice A la la] w' fun e w'' => CPost w' la fb fa e w'') :=
                fun w' hb => zz B A la la la la fb fa la (by show _ = _; simp) (by omega) (by omega) w' (hRB1.out.lift hb hb.size) (hRA1.out.lift hb hb.size)
              go_upto_if 62 with (go_at_call 6; refine hzz.mono ?_; rintro e w3 ⟨g, ad, rfl, hR3, hw3, hC3, hB3⟩; have hR3 : Hid _ := hR3; have hw3 : Hid _ := hw3; have hC3 : Hid _ := hC3; have hB3 : Hid _ := hB3; clear hzz)
              go_wp2_with (go_at_call 6; refine (hzz2.out _ hB3.out).mono ?_; rintro e w4 ⟨g4, ad4, rfl, hR4, hw4, hC4, hB4⟩; have hR4 : Hid _ := hR4; have hw4 : Hid _ := hw4; have hC4 : Hid _ := hC4; have hB4 : Hid _ := hB4)
              clear hzz2
              have hB5 : Hid (Below w.heap.size w w4) := (hBB.out.trans (hB3.out.mono hBB.out.size)).trans (hB4.out.mono (Nat.le_trans hBB.out.size hB3.out.size))
              have hB6 : Below wc.heap.size wc w4 := hB3.out.trans (hB4.out.mono hB3.out.size)
              have hRA4 : Hid (Rd w4 w4.heap.size A la fa) := hRA1.out.lift hB6 hB6.size
              have hRB4 : Hid (Rd w4 w4.heap.size B la fb) := hRB1.out.lift hB6 hB6.size
              have hR34 : Hid (Rd w4 w4.heap.size ad la g) := Rd.lift hR3.out hB4.out hB4.out.size
              clear hRA1 hRB1 hBB hR3 hB3 hB4 hB6
              go_loopg [12] la (fun r i wr => ∃ k : Nat, r + k = la ∧ i = .int .i64 (k : Int) ∧ Hid (Below w4.heap.size w4 wr))
              case atStart => exact ⟨0, by omega, rfl, Below.refl _ _⟩
              case round =>
                obtain ⟨k, hk, rfl, hBk⟩ := hrel
                by_cases hlt : k < la
                · obtain ⟨p1, q1, rfl, g1, ha⟩ := hRA4.out (by omega)
                  obtain ⟨p2, q2, rfl, g2, hb⟩ := hRB4.out (by omega)
                  obtain ⟨p3, q3, rfl, g3, hc⟩ := hR34.out (by omega)
                  obtain ⟨p4, q4, rfl, g4', hd⟩ := hR4.out (by omega)
                  have ga := (hBk.out.cell (p := ⟨p1, q1 + k, none⟩) g1).trans (ha k hlt)
                  have gb := (hBk.out.cell (p := ⟨p2, q2 + k, none⟩) g2).trans (hb k hlt)
                  have gc := (hBk.out.cell (p := ⟨p3, q3 + k, none⟩) g3).trans (hc k hlt)
                  have gd := (hBk.out.cell (p := ⟨p4, q4 + k, none⟩) g4').trans (hd k hlt)
                  clear ha hb hc hd g1 g2 g3 g4'
                  have hc := hC3.out k hlt
                  have hs1 : Hid (∀ w, Calls Try.prog 7 #[.float .f64 (g4 k), .float .f64 (g k)] w fun e w' => e = .returned (.bool true) ∧ w' = w) :=
                    same_cen (g4 k) (g k) (hw4.out k) (cen_same (cen_swap (hC4.out k hlt)) hc)
                  have q5 : (k : Int) < (la : Int) := by omega
                  by_cases ya : Halv (fa k)
                  · have h8a : Hid (∀ w, Calls Try.prog 8 #[.float .f64 (fa k)] w fun e w' => e = .returned (.bool true) ∧ w' = w) := halves (fa k) (hwa.out k) true (by simp [ya])
                    by_cases yb : Halv (fb k)
                    · have h8b : Hid (∀ w, Calls Try.prog 8 #[.float .f64 (fb k)] w fun e w' => e = .returned (.bool true) ∧ w' = w) := halves (fb k) (hwb.out k) true (by simp [yb])
                      obtain ⟨a2, b2, d1, d2, d3⟩ := halves_same ya yb hc
                      have hs2 : Hid (∀ w, Calls Try.prog 7 #[.float .f64 (g k), .float .f64 (g k)] w fun e w' => e = .returned (.bool true) ∧ w' = w) :=
                        same_self (g k) (hw3.out k) (by rcases add_not_nan d3 with h | h <;> (unfold Nan; first | (unfold Fp.Fin at h; omega) | omega))
                      have r1 := fun w => run_float_arith (P := Try.prog) (w := w) .quo 26 .f64 (fa k) 4611686018427387904 a2 d1
                      have r2 := fun w => run_float_arith (P := Try.prog) (w := w) .quo 26 .f64 (fb k) 4611686018427387904 b2 d2
                      have r3 := fun w => run_float_arith (P := Try.prog) (w := w) .add 26 .f64 a2 b2 (g k) d3
                      clear hc d1 d2 d3 ya yb
                      go_wp2
                      go_quiet (first | (go_at_call 7; refine Calls.quiet_of_same (hs1.out _)))
                      go_wp2_with (first
                        | (go_at_call 8; first
                            | (with_reducible refine (h8a.out _).mono ?_; rintro e w' ⟨rfl, hw'⟩; rw [hw']; clear hw' w')
                            | (with_reducible refine (h8b.out _).mono ?_; rintro e w' ⟨rfl, hw'⟩; rw [hw']; clear hw' w'))
                        | (go_at_call 7; with_reducible refine (hs2.out _).mono ?_; rintro e w' ⟨rfl, hw'⟩; rw [hw']; clear hw' w'))
                      go_roundg (la - (k + 1))
                      case measure => omega
                      case rel => exact ⟨k + 1, by omega, by go_num, below_drewN hBk.out nq⟩
                    · have h8b : Hid (∀ w, Calls Try.prog 8 #[.float .f64 (fb k)] w fun e w' => e = .returned (.bool false) ∧ w' = w) := halves (fb k) (hwb.out k) false (by simp [yb])
                      have hs2 := hs1
                      clear hc ya yb
                      go_wp2
                      go_quiet (first | (go_at_call 7; refine Calls.quiet_of_same (hs1.out _)))
                      go_wp2_with (first
                        | (go_at_call 8; first
                            | (with_reducible refine (h8a.out _).mono ?_; rintro e w' ⟨rfl, hw'⟩; rw [hw']; clear hw' w')
                            | (with_reducible refine (h8b.out _).mono ?_; rintro e w' ⟨rfl, hw'⟩; rw [hw']; clear hw' w'))
                        | (go_at_call 7; with_reducible refine (hs2.out _).mono ?_; rintro e w' ⟨rfl, hw'⟩; rw [hw']; clear hw' w'))
                      go_roundg (la - (k + 1))
                      case measure => omega
                      case rel => exact ⟨k + 1, by omega, by go_num, below_drewN hBk.out nq⟩
                  · have h8a : Hid (∀ w, Calls Try.prog 8 #[.float .f64 (fa k)] w fun e w' => e = .returned (.bool false) ∧ w' = w) := halves (fa k) (hwa.out k) false (by simp [ya])
                    have h8b := h8a
                    have hs2 := hs1
                    clear hc ya
                    go_wp2
                    go_quiet (first | (go_at_call 7; refine Calls.quiet_of_same (hs1.out _)))
                    go_wp2_with (first
                      | (go_at_call 8; first
                          | (with_reducible refine (h8a.out _).mono ?_; rintro e w' ⟨rfl, hw'⟩; rw [hw']; clear hw' w')
                          | (with_reducible refine (h8b.out _).mono ?_; rintro e w' ⟨rfl, hw'⟩; rw [hw']; clear hw' w'))
                      | (go_at_call 7; with_reducible refine (hs2.out _).mono ?_; rintro e w' ⟨rfl, hw'⟩; rw [hw']; clear hw' w'))
                    go_roundg (la - (k + 1))
                    case measure => omega
                    case rel => exact ⟨k + 1, by omega, by go_num, below_drewN hBk.out nq⟩
                · have e : k = la := by omega
                  subst e
                  clear hR4 hw4 hC4 hk
                  by_cases hk0 : 0 ≤ kk
                  · by_cases hk1 : kk ≤ (k : Int)
                    · obtain ⟨K, rfl⟩ := Int.eq_ofNat_of_zero_le hk0
                      obtain ⟨M, hM⟩ : ∃ M, K + M = k := ⟨(k : Nat) - K, by omega⟩
                      have hK : K ≤ k := by omega
                      clear hk0 hk1
                      have hL : Calls Try.prog 6 #[.slice A K k, .slice B K k] wr.drew fun e w6 => ∃ ad5, e = .returned (.slice ad5 K K) ∧ Hid (∃ g5, Rd w6 w6.heap.size ad5 K g5 ∧ W64 g5 ∧ (∀ i, i < K → Cen (fa i) (fb i) (g5 i)) ∧ Below w4.heap.size w4 w6) := by
                        refine (zz A B K k K k fa fb K (by show _ = _; simp) (by omega) (by omega) wr.drew (Rd.pre (hRA4.out.lift hBk.out.drew hBk.out.size) hK) (Rd.pre (hRB4.out.lift hBk.out.drew hBk.out.size) hK)).mono ?_
                        rintro e w6 ⟨g5, ad5, rfl, h1, h2, h3, h4⟩
                        exact ⟨ad5, rfl, g5, h1, h2, h3, hBk.out.drew.trans (h4.mono hBk.out.size)⟩
                      have sA := slice_lo A k K hK
                      have sB := slice_lo B k K hK
                      go_upto_region 36 with fail
                      go_cut [16] from 125 (fun s16 wx => ∃ ad5 g5, s16 = .slice ad5 K K ∧ Hid (Rd wx wx.heap.size ad5 K g5) ∧ Hid (W64 g5) ∧ Hid (∀ i, i < K → Cen (fa i) (fb i) (g5 i)) ∧ Hid (Below w4.heap.size w4 wx))
                      case first =>
                        go_region_with (go_at_call 6; refine hL.mono ?_; rintro e w6 ⟨ad5, rfl, HH⟩)
                        all_goals (go_wp2_with fail; go_meet; obtain ⟨g5, h1, h2, h3, h4⟩ := HH.out; exact ⟨_, _, rfl, h1, h2, h3, h4⟩)
                      case rest =>
                        obtain ⟨ad5, g5, rfl, hR5, hw5, hC5, hB7⟩ := hcut
                        clear hL sA sB
                        have hBc : Below w4.heap.size w4 wc.drew := hB7.out.drew
                        have hA5 : Rd wc.drew wc.drew.heap.size A k fa := hRA4.out.lift hBc hB7.out.size
                        have hB8 : Rd wc.drew wc.drew.heap.size B k fb := hRB4.out.lift hBc hB7.out.size
                        obtain ⟨A2, sA, rA⟩ := slice_hi A k K M hM wc.drew fa hA5
                        obtain ⟨B2, sB, rB⟩ := slice_hi B k K M hM wc.drew fb hB8
                        have hL : Calls Try.prog 6 #[.slice A2 M M, .slice B2 M M] wc.drew fun e w6 => ∃ ad5, e = .returned (.slice ad5 M M) ∧ Hid (∃ g6, Rd w6 w6.heap.size ad5 M g6 ∧ W64 g6 ∧ (∀ i, i < M → Cen (fa (K + i)) (fb (K + i)) (g6 i)) ∧ Below wc.heap.size wc w6) := by
                          refine (zz A2 B2 M M M M (fun i => fa (K + i)) (fun i => fb (K + i)) M (by show _ = _; simp) (by omega) (by omega) wc.drew rA rB).mono ?_
                          rintro e w6 ⟨g6, ad6, rfl, h1, h2, h3, h4⟩
                          exact ⟨ad6, rfl, g6, h1, h2, h3, (Below.refl _ _).drew.trans h4⟩
                        clear hA5 hB8 rA rB hBc
                        go_upto_region 37 with fail
                        go_cut [17] from 132 (fun s17 wx => ∃ ad6 g6, s17 = .slice ad6 M M ∧ Hid (Rd wx wx.heap.size ad6 M g6) ∧ Hid (W64 g6) ∧ Hid (∀ i, i < M → Cen (fa (K + i)) (fb (K + i)) (g6 i)) ∧ Hid (Below wc.heap.size wc wx))
                        case first =>
                          go_region_with (go_at_call 6; refine hL.mono ?_; rintro e w6 ⟨ad5, rfl, HH⟩)
                          all_goals (go_wp2_with fail; go_meet; obtain ⟨g6, h1, h2, h3, h4⟩ := HH.out; exact ⟨_, _, rfl, h1, h2, h3, h4⟩)
                        case rest =>
                          obtain ⟨ad6, g6, rfl, hR6, hw6, hC6, hB9⟩ := hcut
                          have hB10 : Hid (Below w4.heap.size w4 wc) := hB7.out.trans (hB9.out.mono hB7.out.size)
                          have hB11 : Hid (Below w.heap.size w wc) := hB5.out.trans (hB10.out.mono hB5.out.size)
                          have hR5c : Hid (Rd wc wc.heap.size ad5 K g5) := hR5.out.lift hB9.out hB9.out.size
                          have hR3c : Hid (Rd wc wc.heap.size ad k g) := hR34.out.lift hB10.out hB10.out.size
                          clear hR5 hR34 hRA4 hRB4 hB5 hB7 hB9 hB10 hL sA sB hBk
                          go_wp2
                          go_loopg [18] K (fun r i wr => ∃ j : Nat, r + j = K ∧ i = .int .i64 (j : Int) ∧ Hid (Below wc.heap.size wc wr))
                          case atStart => exact ⟨0, by omega, rfl, Below.refl _ _⟩
                          case round =>
                            obtain ⟨j, hj, rfl, hBj⟩ := hrel
                            by_cases hjK : j < K
                            · obtain ⟨p3, q3, rfl, g3, hc⟩ := hR3c.out (by omega)
                              obtain ⟨p5, q5, rfl, g5', hd⟩ := hR5c.out (by omega)
                              have gc := (hBj.out.cell (p := ⟨p3, q3 + j, none⟩) g3).trans (hc j (by omega))
                              have gd := (hBj.out.cell (p := ⟨p5, q5 + j, none⟩) g5').trans (hd j hjK)
                              clear hc hd g3 g5'
                              have hs1 : Hid (∀ w, Calls Try.prog 7 #[.float .f64 (g5 j), .float .f64 (g j)] w fun e w' => e = .returned (.bool true) ∧ w' = w) :=
                                same_cen (g5 j) (g j) (hw5.out j) (cen_same (hC5.out j hjK) (hC3.out j (by omega)))
                              have q6 : (j : Int) < (k : Int) := by omega
                              go_wp2
                              go_quiet (first | (go_at_call 7; refine Calls.quiet_of_same (hs1.out _)))
                              go_wp2
                              go_roundg (K - (j + 1))
                              case measure => omega
                              case rel => exact ⟨j + 1, by omega, by go_num, below_drewN hBj.out nq⟩
                            · have hBw : Hid (Below w.heap.size w wr) := hB11.out.trans (hBj.out.mono hB11.out.size)
                              have hR6c : Hid (Rd wr wr.heap.size ad6 M g6) := hR6.out.lift hBj.out hBj.out.size
                              have hR3d : Hid (Rd wr wr.heap.size ad k g) := hR3c.out.lift hBj.out hBj.out.size
                              clear hR5c hR3c hR6 hB11 hBj
                              go_wp2
                              go_loopg [19] M (fun r i wx => ∃ j : Nat, r + j = M ∧ i = .int .i64 (j : Int) ∧ Hid (Below wr.heap.size wr wx))
                              case atStart => exact ⟨0, by omega, rfl, Below.refl _ _⟩
                              case round =>
                                obtain ⟨i, hi, rfl, hBi⟩ := hrel
                                by_cases hiM : i < M
                                · obtain ⟨p3, q3, rfl, g3, hc⟩ := hR3d.out (by omega)
                                  obtain ⟨p6, q6, rfl, g6', hd⟩ := hR6c.out (by omega)
                                  have gc := (hBi.out.cell (p := ⟨p3, q3 + (K + i), none⟩) g3).trans (hc (K + i) (by omega))
                                  have gd := (hBi.out.cell (p := ⟨p6, q6 + i, none⟩) g6').trans (hd i hiM)
                                  clear hc hd g3 g6'
                                  have hs1 : Hid (∀ w, Calls Try.prog 7 #[.float .f64 (g6 i), .float .f64 (g (K + i))] w fun e w' => e = .returned (.bool true) ∧ w' = w) :=
                                    same_cen (g6 i) (g (K + i)) (hw6.out i) (cen_same (hC6.out i hiM) (hC3.out (K + i) (by omega)))
                                  have q7 : 0 ≤ (K : Int) + (i : Int) := by omega
                                  have q8 : (K : Int) + (i : Int) < (k : Int) := by omega
                                  go_wp2
                                  go_quiet (first | (go_at_call 7; refine Calls.quiet_of_same (hs1.out _)))
                                  go_wp2
                                  go_roundg (M - (i + 1))
                                  case measure => omega
                                  case rel => exact ⟨i + 1, by omega, by go_num, below_drewN hBi.out nq⟩
                                · go_wp2
                                  go_ret
                                  exact ⟨rfl, hBw.out.trans (hBi.out.mono hBw.out.size)⟩
                    · have hk2 : ¬ kk ≤ (k : Int) := hk1
                      go_wp2
                      go_ret
                      exact ⟨rfl, hB5.out.trans (hBk.out.mono hB5.out.size)⟩
                  · go_wp2
                    go_ret
                    exact ⟨rfl, hB5.out.trans (hBk.out.mono hB5.out.size)⟩
            · have hzz := zz A B la la lb lb fa fb 0 (by show _ = _; rw [if_neg hl]) (by omega) (by omega) wc hRA1 hRB1
              have hzz2 : Hid (∀ w', Below wc.heap.size wc w' → Calls Try.prog 6 #[.slice B lb lb, .slice A la la] w' fun e w'' => CPost w' 0 fb fa e w'') :=
                fun w' hb => zz B A lb lb la la fb fa 0 (by show _ = _; rw [if_neg (fun h => hl h.symm)]) (by omega) (by omega) w' (hRB1.out.lift hb hb.size) (hRA1.out.lift hb hb.size)
              have hl2 : ((la : Int) == (lb : Int)) = false := beq_eq_false_iff_ne.2 (by omega)
              go_upto_if 62 with (go_at_call 6; refine hzz.mono ?_; rintro e w3 ⟨g, ad, rfl, hR3, hw3, hC3, hB3⟩; have hR3 : Hid _ := hR3; have hw3 : Hid _ := hw3; have hC3 : Hid _ := hC3; have hB3 : Hid _ := hB3; clear hzz)
              go_wp2_with (go_at_call 6; refine (hzz2.out _ hB3.out).mono ?_; rintro e w4 ⟨g4, ad4, rfl, hR4, hw4, hC4, hB4⟩; have hR4 : Hid _ := hR4; have hw4 : Hid _ := hw4; have hC4 : Hid _ := hC4; have hB4 : Hid _ := hB4)
              refine wp_loop_rounds 1 ?_
              rw [rounds_succ]
              go_wp2
              go_ret
              exact ⟨rfl, (hBB.out.trans (hB3.out.mono hBB.out.size)).trans (hB4.out.mono (Nat.le_trans hBB.out.size hB3.out.size))⟩
      · go_enter Try.func3, Try.ntmps3
        go_wp2_with (go_at_call 5; refine hby.mono ?_; rintro e w' ⟨rfl, hw'⟩; rw [hw']; clear hw' w')
        go_ret
        exact ⟨rfl, Below.refl _ _⟩
    · go_enter Try.func3, Try.ntmps3
      go_wp2_with (go_at_call 5; refine hby.mono ?_; rintro e w' ⟨rfl, hw'⟩; rw [hw']; clear hw' w')
      go_ret
      exact ⟨rfl, Below.refl _ _⟩
  · have f0' : fits2 la lb = false := by simp [fits2]; omega
    rw [f0'] at hby
    go_enter Try.func3, Try.ntmps3
    go_wp2_with (go_at_call 5; refine hby.mono ?_; rintro e w' ⟨rfl, hw'⟩; rw [hw']; clear hw' w')
    go_ret
    exact ⟨rfl, Below.refl _ _⟩
end Go.Proofs.Qxb6621747a.Wk
