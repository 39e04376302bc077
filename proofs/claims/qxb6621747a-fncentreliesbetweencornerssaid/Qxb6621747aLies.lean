/-
  The walk of the law 'the centre lies between the corners'.
-/
import Derived.Test.Qxb6621747aZZ
import Derived.Test.Qxb6621747aRound
namespace Go.Proofs.Qxb6621747a.Wk
open Go.RowKit
open Fp
set_option linter.unusedVariables false

theorem Rd.up {w w' : World} {B : Nat} {ad : Option Addr} {L : Nat} {f : Nat → Nat} (h : Rd w B ad L f) (hb : Below B w w') (hs : B ≤ w'.heap.size) : Rd w' w'.heap.size ad L f := by
  intro h0
  obtain ⟨b, o, h1, h2, h3⟩ := h h0
  exact ⟨b, o, h1, by omega, fun i hi => (hb.cell (p := ⟨b, o + i, none⟩) h2).trans (h3 i hi)⟩

set_option maxHeartbeats 40000000 in
set_option maxRecDepth 100000 in
theorem lies (a b : Option Addr) (la ca lb cb : Nat) (fa fb : Nat → Nat) (hla : la ≤ maxLen) (hlb : lb ≤ maxLen) (w : World)
    (hRa : Hid (Rd w w.heap.size a la fa)) (hRb : Hid (Rd w w.heap.size b lb fb)) (hwa : Hid (W64 fa)) (hwb : Hid (W64 fb)) :
    Calls Try.prog 4 #[.slice a la ca, .slice b lb cb] w fun e w' => e = .returned (.bool true) ∧ Below w.heap.size w w' := by
  have hby := bytes9 a b la ca lb cb w hla hlb
  unfold maxLen at hla hlb
  by_cases f0 : la + lb ≤ 1048576
  · have f0' : fits2 la lb = true := by simp [fits2, f0]
    rw [f0'] at hby
    by_cases f1 : la ≤ 65536
    · by_cases f2 : lb ≤ 65536
      · have hmka := make_f la (by omega)
        have hmkb := make_f lb (by omega)
        go_enter Try.func4, Try.ntmps4
        go_upto_if 31 with (go_at_call 9; refine hby.mono ?_; rintro e w' ⟨rfl, hw'⟩; rw [hw']; clear hw' w')
        go_cut [0, 5] from 30 (fun s0 s5 wc => ∃ A' C', s0 = .slice A' la C' ∧ Hid (Rd wc wc.heap.size A' la fa) ∧ Hid (Below w.heap.size w wc))
        case first =>
          cases a with
          | none =>
            go_wp2
            go_meet
            case rel => exact ⟨_, _, rfl, hRa, Below.refl _ _⟩
          | some A0 =>
            obtain ⟨w1, hrun, hr1, hb1, hz1⟩ := copyF w (some A0) la ca fa hRa.out 3
            have HH : Hid (_ ∧ _) := And.intro hr1 hb1
            clear hr1 hb1 hz1
            go_wp2
            go_meet
            case rel => exact ⟨_, _, rfl, HH.out.1, HH.out.2⟩
        case rest =>
          obtain ⟨A, CA, rfl, hRA, hBA⟩ := hcut
          have hRb1 : Hid (Rd wc wc.heap.size b lb fb) := hRb.out.up hBA.out hBA.out.size
          clear hRa hRb
          go_upto_if 40 with fail
          go_cut [1, 6] from 39 (fun s1 s6 wd => ∃ B' C', s1 = .slice B' lb C' ∧ Hid (Rd wd wd.heap.size A la fa) ∧ Hid (Rd wd wd.heap.size B' lb fb) ∧ Hid (Below w.heap.size w wd))
          case first =>
            cases b with
            | none =>
              go_wp2
              go_meet
              case rel => exact ⟨_, _, rfl, hRA, hRb1, hBA⟩
            | some B0 =>
              obtain ⟨w1, hrun, hr1, hb1, hz1⟩ := copyF wc (some B0) lb cb fb hRb1.out 3
              have HH : Hid (_ ∧ _ ∧ _) := And.intro hr1 (And.intro (hRA.out.up hb1 hb1.size) (hBA.out.trans (hb1.mono hBA.out.size)))
              clear hr1 hb1 hz1
              go_wp2
              go_meet
              case rel => exact ⟨_, _, rfl, HH.out.2.1, HH.out.1, HH.out.2.2⟩
          case rest =>
            obtain ⟨B, CB, rfl, hRA1, hRB1, hBB⟩ := hcut
            clear hRA hRb1 hBA
            by_cases hl : la = lb
            · subst hl
              have hzz := zz A B la CA la CB fa fb la (by show _ = _; simp) (by omega) (by omega) wc hRA1 hRB1
              go_wp2_with (go_at_call 6; refine hzz.mono ?_; rintro e w3 ⟨g, ad, rfl, hR3, hw3, hC3, hB3⟩; have hR3 : Hid _ := hR3; have hw3 : Hid _ := hw3; have hC3 : Hid _ := hC3; have hB3 : Hid _ := hB3; clear hzz)
              go_loopg [9] la (fun r i wr => ∃ k : Nat, r + k = la ∧ i = .int .i64 (k : Int) ∧ wr = w3)
              case atStart => exact ⟨0, by omega, rfl, rfl⟩
              case round =>
                obtain ⟨k, hk, rfl, rfl⟩ := hrel
                by_cases hlt : k < la
                · obtain ⟨p1, q1, rfl, g1, ha⟩ := hRA1.out (by omega)
                  obtain ⟨p2, q2, rfl, g2, hb⟩ := hRB1.out (by omega)
                  obtain ⟨p3, q3, rfl, g3, hc⟩ := hR3.out (by omega)
                  have ga := (hB3.out.cell (p := ⟨p1, q1 + k, none⟩) g1).trans (ha k hlt)
                  have gb := (hB3.out.cell (p := ⟨p2, q2 + k, none⟩) g2).trans (hb k hlt)
                  have gc := hc k hlt
                  clear ha hb hc g1 g2 g3
                  have hc := hC3.out k hlt
                  rcases cls (fa k) with ⟨ia, sa, pa, za⟩ | ⟨ia, sa, pa, na, za⟩ | ⟨ia, pa, na⟩ | ia
                  · rcases cls (fb k) with ⟨ib, sb, pb, zb⟩ | ⟨ib, sb, pb, nb, zb⟩ | ⟨ib, pb, nb⟩ | ib
                    · have ea := ord_self (not_nan_inf ia)
                      have eb := ord_self (not_nan_inf ib)
                      have em := cen_pp ia ib (by rw [sa, sb]) hc
                      clear hc ia ib sa sb
                      as_aux_lemma =>
                        go_wp2
                        go_roundg (la - (k + 1))
                        case measure => omega
                        case rel => exact ⟨k + 1, by omega, by go_num, rfl⟩
                    · have ea := ord_self (not_nan_inf ia)
                      have eb := ord_self (not_nan_inf ib)
                      have em := cen_pm ia ib (by rw [sa, sb]; decide) hc
                      clear hc ia ib sa sb
                      as_aux_lemma =>
                        go_wp2
                        go_roundg (la - (k + 1))
                        case measure => omega
                        case rel => exact ⟨k + 1, by omega, by go_num, rfl⟩
                    · have ea := ord_self (not_nan_inf ia)
                      have eb := ord_self (not_nan_fin ib)
                      have em := cen_pf ia ib hc
                      clear hc ia ib sa
                      as_aux_lemma =>
                        go_wp2
                        go_roundg (la - (k + 1))
                        case measure => omega
                        case rel => exact ⟨k + 1, by omega, by go_num, rfl⟩
                    · have ea := ord_self (not_nan_inf ia)
                      have eb := ord_nan ib
                      have em := cen_nan (.inr ib) hc
                      clear hc ia ib
                      as_aux_lemma =>
                        go_wp2
                        go_roundg (la - (k + 1))
                        case measure => omega
                        case rel => exact ⟨k + 1, by omega, by go_num, rfl⟩
                  · rcases cls (fb k) with ⟨ib, sb, pb, zb⟩ | ⟨ib, sb, pb, nb, zb⟩ | ⟨ib, pb, nb⟩ | ib
                    · have ea := ord_self (not_nan_inf ia)
                      have eb := ord_self (not_nan_inf ib)
                      have em := cen_pm ia ib (by rw [sa, sb]; decide) hc
                      clear hc ia ib sa sb
                      as_aux_lemma =>
                        go_wp2
                        go_roundg (la - (k + 1))
                        case measure => omega
                        case rel => exact ⟨k + 1, by omega, by go_num, rfl⟩
                    · have ea := ord_self (not_nan_inf ia)
                      have eb := ord_self (not_nan_inf ib)
                      have em := cen_pp ia ib (by rw [sa, sb]) hc
                      clear hc ia ib sa sb
                      as_aux_lemma =>
                        go_wp2
                        go_roundg (la - (k + 1))
                        case measure => omega
                        case rel => exact ⟨k + 1, by omega, by go_num, rfl⟩
                    · have ea := ord_self (not_nan_inf ia)
                      have eb := ord_self (not_nan_fin ib)
                      have em := cen_pf ia ib hc
                      clear hc ia ib sa
                      as_aux_lemma =>
                        go_wp2
                        go_roundg (la - (k + 1))
                        case measure => omega
                        case rel => exact ⟨k + 1, by omega, by go_num, rfl⟩
                    · have ea := ord_self (not_nan_inf ia)
                      have eb := ord_nan ib
                      have em := cen_nan (.inr ib) hc
                      clear hc ia ib
                      as_aux_lemma =>
                        go_wp2
                        go_roundg (la - (k + 1))
                        case measure => omega
                        case rel => exact ⟨k + 1, by omega, by go_num, rfl⟩
                  · rcases cls (fb k) with ⟨ib, sb, pb, zb⟩ | ⟨ib, sb, pb, nb, zb⟩ | ⟨ib, pb, nb⟩ | ib
                    · have ea := ord_self (not_nan_fin ia)
                      have eb := ord_self (not_nan_inf ib)
                      have em := cen_fp ia ib hc
                      clear hc ia ib sb
                      as_aux_lemma =>
                        go_wp2
                        go_roundg (la - (k + 1))
                        case measure => omega
                        case rel => exact ⟨k + 1, by omega, by go_num, rfl⟩
                    · have ea := ord_self (not_nan_fin ia)
                      have eb := ord_self (not_nan_inf ib)
                      have em := cen_fp ia ib hc
                      clear hc ia ib sb
                      as_aux_lemma =>
                        go_wp2
                        go_roundg (la - (k + 1))
                        case measure => omega
                        case rel => exact ⟨k + 1, by omega, by go_num, rfl⟩
                    · have ea := ord_self (not_nan_fin ia)
                      have eb := ord_self (not_nan_fin ib)
                      obtain ⟨va, vb, vs, sw, hpk, hsw, hff⟩ := ff (fa k) (fb k) (g k) ia ib (hwa.out k) (hwb.out k) hc
                      have c1 : Hid _ := hpk.c1
                      have c2 : Hid _ := hpk.c2
                      have c3 : Hid _ := hpk.c3
                      clear hc ia ib hpk
                      rcases hff with ⟨k1, k2, k3⟩ | ⟨b1, b2, m1, m2, a0, b0, am, bm, ma, mb⟩ | ⟨b1, b2, m1, m2, a0, b0, am, bm⟩
                      · cases sw
                        · have k4 := k2 rfl
                          clear k1 k2
                          unfold le at k4
                          obtain ⟨l1, l2⟩ := k4
                          cases vs
                          · clear k3
                            as_aux_lemma =>
                              go_wp2_with (first
                                | (go_at_call 10; first
                                    | (with_reducible refine (c1.out _).mono ?_; rintro e w' ⟨rfl, hw'⟩; rw [hw']; clear hw' w')
                                    | (with_reducible refine (c2.out _).mono ?_; rintro e w' ⟨rfl, hw'⟩; rw [hw']; clear hw' w'))
                                | (go_at_call 7; first
                                    | (with_reducible refine (c3.out _).mono ?_; rintro e w' ⟨rfl, hw'⟩; rw [hw']; clear hw' w')
                                    | (with_reducible refine (c3.out _).mono ?_; rintro e w' ⟨rfl, hw'⟩; rw [hw']; clear hw' w')))
                              go_roundg (la - (k + 1))
                              case measure => omega
                              case rel => exact ⟨k + 1, by omega, by go_num, rfl⟩
                          · cases va
                            · clear k3
                              as_aux_lemma =>
                                go_wp2_with (first
                                  | (go_at_call 10; first
                                      | (with_reducible refine (c1.out _).mono ?_; rintro e w' ⟨rfl, hw'⟩; rw [hw']; clear hw' w')
                                      | (with_reducible refine (c2.out _).mono ?_; rintro e w' ⟨rfl, hw'⟩; rw [hw']; clear hw' w'))
                                  | (go_at_call 7; first
                                      | (with_reducible refine (c3.out _).mono ?_; rintro e w' ⟨rfl, hw'⟩; rw [hw']; clear hw' w')
                                      | (with_reducible refine (c3.out _).mono ?_; rintro e w' ⟨rfl, hw'⟩; rw [hw']; clear hw' w')))
                                go_roundg (la - (k + 1))
                                case measure => omega
                                case rel => exact ⟨k + 1, by omega, by go_num, rfl⟩
                            · have c4 : Hid _ := k3 rfl rfl
                              clear k3
                              as_aux_lemma =>
                                go_wp2_with (first
                                  | (go_at_call 10; first
                                      | (with_reducible refine (c1.out _).mono ?_; rintro e w' ⟨rfl, hw'⟩; rw [hw']; clear hw' w')
                                      | (with_reducible refine (c2.out _).mono ?_; rintro e w' ⟨rfl, hw'⟩; rw [hw']; clear hw' w'))
                                  | (go_at_call 7; first
                                      | (with_reducible refine (c3.out _).mono ?_; rintro e w' ⟨rfl, hw'⟩; rw [hw']; clear hw' w')
                                      | (with_reducible refine (c4.out _).mono ?_; rintro e w' ⟨rfl, hw'⟩; rw [hw']; clear hw' w')))
                                go_roundg (la - (k + 1))
                                case measure => omega
                                case rel => exact ⟨k + 1, by omega, by go_num, rfl⟩
                        · have k4 := k1 rfl
                          clear k1 k2
                          unfold le at k4
                          obtain ⟨l1, l2⟩ := k4
                          cases vs
                          · clear k3
                            as_aux_lemma =>
                              go_wp2_with (first
                                | (go_at_call 10; first
                                    | (with_reducible refine (c1.out _).mono ?_; rintro e w' ⟨rfl, hw'⟩; rw [hw']; clear hw' w')
                                    | (with_reducible refine (c2.out _).mono ?_; rintro e w' ⟨rfl, hw'⟩; rw [hw']; clear hw' w'))
                                | (go_at_call 7; first
                                    | (with_reducible refine (c3.out _).mono ?_; rintro e w' ⟨rfl, hw'⟩; rw [hw']; clear hw' w')
                                    | (with_reducible refine (c3.out _).mono ?_; rintro e w' ⟨rfl, hw'⟩; rw [hw']; clear hw' w')))
                              go_roundg (la - (k + 1))
                              case measure => omega
                              case rel => exact ⟨k + 1, by omega, by go_num, rfl⟩
                          · cases va
                            · clear k3
                              as_aux_lemma =>
                                go_wp2_with (first
                                  | (go_at_call 10; first
                                      | (with_reducible refine (c1.out _).mono ?_; rintro e w' ⟨rfl, hw'⟩; rw [hw']; clear hw' w')
                                      | (with_reducible refine (c2.out _).mono ?_; rintro e w' ⟨rfl, hw'⟩; rw [hw']; clear hw' w'))
                                  | (go_at_call 7; first
                                      | (with_reducible refine (c3.out _).mono ?_; rintro e w' ⟨rfl, hw'⟩; rw [hw']; clear hw' w')
                                      | (with_reducible refine (c3.out _).mono ?_; rintro e w' ⟨rfl, hw'⟩; rw [hw']; clear hw' w')))
                                go_roundg (la - (k + 1))
                                case measure => omega
                                case rel => exact ⟨k + 1, by omega, by go_num, rfl⟩
                            · have c4 : Hid _ := k3 rfl rfl
                              clear k3
                              as_aux_lemma =>
                                go_wp2_with (first
                                  | (go_at_call 10; first
                                      | (with_reducible refine (c1.out _).mono ?_; rintro e w' ⟨rfl, hw'⟩; rw [hw']; clear hw' w')
                                      | (with_reducible refine (c2.out _).mono ?_; rintro e w' ⟨rfl, hw'⟩; rw [hw']; clear hw' w'))
                                  | (go_at_call 7; first
                                      | (with_reducible refine (c3.out _).mono ?_; rintro e w' ⟨rfl, hw'⟩; rw [hw']; clear hw' w')
                                      | (with_reducible refine (c4.out _).mono ?_; rintro e w' ⟨rfl, hw'⟩; rw [hw']; clear hw' w')))
                                go_roundg (la - (k + 1))
                                case measure => omega
                                case rel => exact ⟨k + 1, by omega, by go_num, rfl⟩
                      · cases sw
                        · cases va
                          · cases vs
                            · as_aux_lemma =>
                                go_wp2_with (first
                                  | (go_at_call 10; first
                                      | (with_reducible refine (c1.out _).mono ?_; rintro e w' ⟨rfl, hw'⟩; rw [hw']; clear hw' w')
                                      | (with_reducible refine (c2.out _).mono ?_; rintro e w' ⟨rfl, hw'⟩; rw [hw']; clear hw' w'))
                                  | (go_at_call 7; first
                                      | (with_reducible refine (c3.out _).mono ?_; rintro e w' ⟨rfl, hw'⟩; rw [hw']; clear hw' w')
                                      | (with_reducible refine (c3.out _).mono ?_; rintro e w' ⟨rfl, hw'⟩; rw [hw']; clear hw' w')))
                                go_roundg (la - (k + 1))
                                case measure => omega
                                case rel => exact ⟨k + 1, by omega, by go_num, rfl⟩
                            · as_aux_lemma =>
                                go_wp2_with (first
                                  | (go_at_call 10; first
                                      | (with_reducible refine (c1.out _).mono ?_; rintro e w' ⟨rfl, hw'⟩; rw [hw']; clear hw' w')
                                      | (with_reducible refine (c2.out _).mono ?_; rintro e w' ⟨rfl, hw'⟩; rw [hw']; clear hw' w'))
                                  | (go_at_call 7; first
                                      | (with_reducible refine (c3.out _).mono ?_; rintro e w' ⟨rfl, hw'⟩; rw [hw']; clear hw' w')
                                      | (with_reducible refine (c3.out _).mono ?_; rintro e w' ⟨rfl, hw'⟩; rw [hw']; clear hw' w')))
                                go_roundg (la - (k + 1))
                                case measure => omega
                                case rel => exact ⟨k + 1, by omega, by go_num, rfl⟩
                          · cases vb
                            · cases vs
                              · as_aux_lemma =>
                                  go_wp2_with (first
                                    | (go_at_call 10; first
                                        | (with_reducible refine (c1.out _).mono ?_; rintro e w' ⟨rfl, hw'⟩; rw [hw']; clear hw' w')
                                        | (with_reducible refine (c2.out _).mono ?_; rintro e w' ⟨rfl, hw'⟩; rw [hw']; clear hw' w'))
                                    | (go_at_call 7; first
                                        | (with_reducible refine (c3.out _).mono ?_; rintro e w' ⟨rfl, hw'⟩; rw [hw']; clear hw' w')
                                        | (with_reducible refine (c3.out _).mono ?_; rintro e w' ⟨rfl, hw'⟩; rw [hw']; clear hw' w')))
                                  go_roundg (la - (k + 1))
                                  case measure => omega
                                  case rel => exact ⟨k + 1, by omega, by go_num, rfl⟩
                              · cases b2
                            · cases b1
                        · cases va
                          · cases vs
                            · as_aux_lemma =>
                                go_wp2_with (first
                                  | (go_at_call 10; first
                                      | (with_reducible refine (c1.out _).mono ?_; rintro e w' ⟨rfl, hw'⟩; rw [hw']; clear hw' w')
                                      | (with_reducible refine (c2.out _).mono ?_; rintro e w' ⟨rfl, hw'⟩; rw [hw']; clear hw' w'))
                                  | (go_at_call 7; first
                                      | (with_reducible refine (c3.out _).mono ?_; rintro e w' ⟨rfl, hw'⟩; rw [hw']; clear hw' w')
                                      | (with_reducible refine (c3.out _).mono ?_; rintro e w' ⟨rfl, hw'⟩; rw [hw']; clear hw' w')))
                                go_roundg (la - (k + 1))
                                case measure => omega
                                case rel => exact ⟨k + 1, by omega, by go_num, rfl⟩
                            · as_aux_lemma =>
                                go_wp2_with (first
                                  | (go_at_call 10; first
                                      | (with_reducible refine (c1.out _).mono ?_; rintro e w' ⟨rfl, hw'⟩; rw [hw']; clear hw' w')
                                      | (with_reducible refine (c2.out _).mono ?_; rintro e w' ⟨rfl, hw'⟩; rw [hw']; clear hw' w'))
                                  | (go_at_call 7; first
                                      | (with_reducible refine (c3.out _).mono ?_; rintro e w' ⟨rfl, hw'⟩; rw [hw']; clear hw' w')
                                      | (with_reducible refine (c3.out _).mono ?_; rintro e w' ⟨rfl, hw'⟩; rw [hw']; clear hw' w')))
                                go_roundg (la - (k + 1))
                                case measure => omega
                                case rel => exact ⟨k + 1, by omega, by go_num, rfl⟩
                          · cases vb
                            · cases vs
                              · as_aux_lemma =>
                                  go_wp2_with (first
                                    | (go_at_call 10; first
                                        | (with_reducible refine (c1.out _).mono ?_; rintro e w' ⟨rfl, hw'⟩; rw [hw']; clear hw' w')
                                        | (with_reducible refine (c2.out _).mono ?_; rintro e w' ⟨rfl, hw'⟩; rw [hw']; clear hw' w'))
                                    | (go_at_call 7; first
                                        | (with_reducible refine (c3.out _).mono ?_; rintro e w' ⟨rfl, hw'⟩; rw [hw']; clear hw' w')
                                        | (with_reducible refine (c3.out _).mono ?_; rintro e w' ⟨rfl, hw'⟩; rw [hw']; clear hw' w')))
                                  go_roundg (la - (k + 1))
                                  case measure => omega
                                  case rel => exact ⟨k + 1, by omega, by go_num, rfl⟩
                              · cases b2
                            · cases b1
                      · cases sw
                        · cases va
                          · cases vs
                            · as_aux_lemma =>
                                go_wp2_with (first
                                  | (go_at_call 10; first
                                      | (with_reducible refine (c1.out _).mono ?_; rintro e w' ⟨rfl, hw'⟩; rw [hw']; clear hw' w')
                                      | (with_reducible refine (c2.out _).mono ?_; rintro e w' ⟨rfl, hw'⟩; rw [hw']; clear hw' w'))
                                  | (go_at_call 7; first
                                      | (with_reducible refine (c3.out _).mono ?_; rintro e w' ⟨rfl, hw'⟩; rw [hw']; clear hw' w')
                                      | (with_reducible refine (c3.out _).mono ?_; rintro e w' ⟨rfl, hw'⟩; rw [hw']; clear hw' w')))
                                go_roundg (la - (k + 1))
                                case measure => omega
                                case rel => exact ⟨k + 1, by omega, by go_num, rfl⟩
                            · as_aux_lemma =>
                                go_wp2_with (first
                                  | (go_at_call 10; first
                                      | (with_reducible refine (c1.out _).mono ?_; rintro e w' ⟨rfl, hw'⟩; rw [hw']; clear hw' w')
                                      | (with_reducible refine (c2.out _).mono ?_; rintro e w' ⟨rfl, hw'⟩; rw [hw']; clear hw' w'))
                                  | (go_at_call 7; first
                                      | (with_reducible refine (c3.out _).mono ?_; rintro e w' ⟨rfl, hw'⟩; rw [hw']; clear hw' w')
                                      | (with_reducible refine (c3.out _).mono ?_; rintro e w' ⟨rfl, hw'⟩; rw [hw']; clear hw' w')))
                                go_roundg (la - (k + 1))
                                case measure => omega
                                case rel => exact ⟨k + 1, by omega, by go_num, rfl⟩
                          · cases vb
                            · cases vs
                              · as_aux_lemma =>
                                  go_wp2_with (first
                                    | (go_at_call 10; first
                                        | (with_reducible refine (c1.out _).mono ?_; rintro e w' ⟨rfl, hw'⟩; rw [hw']; clear hw' w')
                                        | (with_reducible refine (c2.out _).mono ?_; rintro e w' ⟨rfl, hw'⟩; rw [hw']; clear hw' w'))
                                    | (go_at_call 7; first
                                        | (with_reducible refine (c3.out _).mono ?_; rintro e w' ⟨rfl, hw'⟩; rw [hw']; clear hw' w')
                                        | (with_reducible refine (c3.out _).mono ?_; rintro e w' ⟨rfl, hw'⟩; rw [hw']; clear hw' w')))
                                  go_roundg (la - (k + 1))
                                  case measure => omega
                                  case rel => exact ⟨k + 1, by omega, by go_num, rfl⟩
                              · cases b2
                            · cases b1
                        · cases va
                          · cases vs
                            · as_aux_lemma =>
                                go_wp2_with (first
                                  | (go_at_call 10; first
                                      | (with_reducible refine (c1.out _).mono ?_; rintro e w' ⟨rfl, hw'⟩; rw [hw']; clear hw' w')
                                      | (with_reducible refine (c2.out _).mono ?_; rintro e w' ⟨rfl, hw'⟩; rw [hw']; clear hw' w'))
                                  | (go_at_call 7; first
                                      | (with_reducible refine (c3.out _).mono ?_; rintro e w' ⟨rfl, hw'⟩; rw [hw']; clear hw' w')
                                      | (with_reducible refine (c3.out _).mono ?_; rintro e w' ⟨rfl, hw'⟩; rw [hw']; clear hw' w')))
                                go_roundg (la - (k + 1))
                                case measure => omega
                                case rel => exact ⟨k + 1, by omega, by go_num, rfl⟩
                            · as_aux_lemma =>
                                go_wp2_with (first
                                  | (go_at_call 10; first
                                      | (with_reducible refine (c1.out _).mono ?_; rintro e w' ⟨rfl, hw'⟩; rw [hw']; clear hw' w')
                                      | (with_reducible refine (c2.out _).mono ?_; rintro e w' ⟨rfl, hw'⟩; rw [hw']; clear hw' w'))
                                  | (go_at_call 7; first
                                      | (with_reducible refine (c3.out _).mono ?_; rintro e w' ⟨rfl, hw'⟩; rw [hw']; clear hw' w')
                                      | (with_reducible refine (c3.out _).mono ?_; rintro e w' ⟨rfl, hw'⟩; rw [hw']; clear hw' w')))
                                go_roundg (la - (k + 1))
                                case measure => omega
                                case rel => exact ⟨k + 1, by omega, by go_num, rfl⟩
                          · cases vb
                            · cases vs
                              · as_aux_lemma =>
                                  go_wp2_with (first
                                    | (go_at_call 10; first
                                        | (with_reducible refine (c1.out _).mono ?_; rintro e w' ⟨rfl, hw'⟩; rw [hw']; clear hw' w')
                                        | (with_reducible refine (c2.out _).mono ?_; rintro e w' ⟨rfl, hw'⟩; rw [hw']; clear hw' w'))
                                    | (go_at_call 7; first
                                        | (with_reducible refine (c3.out _).mono ?_; rintro e w' ⟨rfl, hw'⟩; rw [hw']; clear hw' w')
                                        | (with_reducible refine (c3.out _).mono ?_; rintro e w' ⟨rfl, hw'⟩; rw [hw']; clear hw' w')))
                                  go_roundg (la - (k + 1))
                                  case measure => omega
                                  case rel => exact ⟨k + 1, by omega, by go_num, rfl⟩
                              · cases b2
                            · cases b1
                    · have ea := ord_self (not_nan_fin ia)
                      have eb := ord_nan ib
                      have em := cen_nan (.inr ib) hc
                      clear hc ia ib
                      as_aux_lemma =>
                        go_wp2
                        go_roundg (la - (k + 1))
                        case measure => omega
                        case rel => exact ⟨k + 1, by omega, by go_num, rfl⟩
                  · have ea := ord_nan ia
                    have em := cen_nan (.inl ia) hc
                    clear hc ia
                    as_aux_lemma =>
                      go_wp2
                      go_roundg (la - (k + 1))
                      case measure => omega
                      case rel => exact ⟨k + 1, by omega, by go_num, rfl⟩
                · have e : k = la := by omega
                  subst e
                  go_wp2
                  go_ret
                  exact ⟨rfl, hBB.out.trans (hB3.out.mono hBB.out.size)⟩
            · have hzz := zz A B la CA lb CB fa fb 0 (by show _ = _; rw [if_neg hl]) (by omega) (by omega) wc hRA1 hRB1
              go_wp2_with (go_at_call 6; refine hzz.mono ?_; rintro e w3 ⟨g, ad, rfl, hR3, hw3, hC3, hB3⟩; have hR3 : Hid _ := hR3; have hw3 : Hid _ := hw3; have hC3 : Hid _ := hC3; have hB3 : Hid _ := hB3; clear hzz)
              refine wp_loop_rounds 1 ?_
              rw [rounds_succ]
              go_wp2
              go_ret
              exact ⟨rfl, hBB.out.trans (hB3.out.mono hBB.out.size)⟩
      · go_enter Try.func4, Try.ntmps4
        go_wp2_with (go_at_call 9; refine hby.mono ?_; rintro e w' ⟨rfl, hw'⟩; rw [hw']; clear hw' w')
        go_ret
        exact ⟨rfl, Below.refl _ _⟩
    · go_enter Try.func4, Try.ntmps4
      go_wp2_with (go_at_call 9; refine hby.mono ?_; rintro e w' ⟨rfl, hw'⟩; rw [hw']; clear hw' w')
      go_ret
      exact ⟨rfl, Below.refl _ _⟩
  · have f0' : fits2 la lb = false := by simp [fits2]; omega
    rw [f0'] at hby
    go_enter Try.func4, Try.ntmps4
    go_wp2_with (go_at_call 9; refine hby.mono ?_; rintro e w' ⟨rfl, hw'⟩; rw [hw']; clear hw' w')
    go_ret
    exact ⟨rfl, Below.refl _ _⟩
end Go.Proofs.Qxb6621747a.Wk
