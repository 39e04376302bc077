/-
  The walk of join where the argument's unbroken run is the longer one: the two are exchanged first.
-/
import Derived.Test.Qxb6620807aJoinA
namespace Go.Proofs.Qxb6620807a.Wk
open Go.RowKit
set_option linter.unusedVariables false

set_option maxRecDepth 100000 in
set_option maxHeartbeats 8000000 in
theorem join_sw (s : ByteArray) (U V : Int) (ada adb : Option Addr) (la ca lb cb : Nat) (fa fb : Nat → Int) (w : World) (hUV' : V < U) (hU : 0 ≤ U ∧ U ≤ 18446744073709551615) (hV : 0 ≤ V ∧ V ≤ 18446744073709551615)
    (hla : la ≤ 1048576) (hlb : lb ≤ 1048576) (hca : la ≤ ca) (hcb : lb ≤ cb)
    (hza : Hid (U64 fa)) (hzb : Hid (U64 fb)) (hva : Hid (Va U la fa)) (hvb : Hid (Va V lb fb)) (hRa : Hid (Rd w w.heap.size ada la fa)) (hRb : Hid (Rd w w.heap.size adb lb fb)) :
    Calls Try.prog 32 #[.agg #[.string s, .int .u64 V, .slice adb lb cb], .agg #[.string s, .int .u64 U, .slice ada la ca]] w fun e w' => JPost w s U V la lb fa fb e w' := by
  have hmk := make_0 (la + lb) (by omega)
  have e1 : ((la + lb : Nat) : Int) = (la : Int) + (lb : Int) := by omega
  rw [e1] at hmk
  clear e1
  have hst : Hid (∀ nq, Inv w s U V (.slice ada la ca) (.slice adb lb cb) (la + lb) 0 fa (((((w.alloc (.cells #[.string s, .int .u64 U, .slice ada la ca] 54)).alloc (.cells #[.string s, .int .u64 V, .slice adb lb cb] 54)).alloc (.cells #[.string ⟨#[]⟩, .int .u64 0, .slice none 0 0] 54)).alloc (.cells (madeCells #[.int .u64 0] (la + lb)) 41)).drewN nq)) :=
    fun nq => (inv_start w s U V _ _ _ _).drewN nq
  obtain ⟨ba, oa, hba, hca'⟩ := rd_at hRa.out
  obtain ⟨bb, ob, hbb, hcb'⟩ := rd_at hRb.out
  have HBA : Hid (0 < la → ada = some ⟨ba, oa, none⟩ ∧ ba < w.heap.size) := hba
  have HBB : Hid (0 < lb → adb = some ⟨bb, ob, none⟩ ∧ bb < w.heap.size) := hbb
  have HCA : Hid (∀ i, i < la → w.cell? ⟨ba, oa + i, none⟩ = some (.int .u64 (fa i))) := hca'
  have HCB : Hid (∀ i, i < lb → w.cell? ⟨bb, ob + i, none⟩ = some (.int .u64 (fb i))) := hcb'
  clear hba hbb hca' hcb'
  obtain ⟨i0, hi0, hz0, hz1, hz2⟩ := info_parts Try.info41
  go_enter Try.func32, Try.ntmps32
  go_wp2
  go_quiet (fail)
  go_wp2
  go_loopg [7] lb (fun g s7 wr => ∃ (k cp : Nat) (ad : Option Addr), k + g = lb ∧ g ≤ cp ∧ s7 = .slice ad g cp ∧ (0 < g → ad = some ⟨bb, ob + k, none⟩) ∧ Hid (∀ t, t < k → fb t ≤ U) ∧ Hid (Inv w s U V (.slice ada la ca) (.slice adb lb cb) (la + lb) 0 fa wr))
  case atStart => exact ⟨0, cb, adb, by omega, hcb, rfl, fun h => (HBB.out h).1, fun t ht => absurd ht (by omega), hst.out _⟩
  case round =>
    clear hmk hst
    obtain ⟨k, cp, ad, hk, hg, rfl, had, hpre, hI⟩ := hrel
    have r1 : wr.cell? ⟨w.heap.size, 1, none⟩ = some (.int .u64 U) := hI.out.r0.cell (i := 1) (by omega)
    by_cases hm : 0 < gk
    · have ea := had hm
      subst ea
      have c1 : wr.cell? ⟨bb, ob + k, none⟩ = some (.int .u64 (fb k)) := (hI.out.bel.cell (by exact (HBB.out (by omega)).2)).trans (HCB.out k (by omega))
      have hmI : (0 : Int) < (gk : Int) := by omega
      have i1 : (1 : Int) ≤ (gk : Int) := by omega
      by_cases hle : fb k ≤ U
      · have hpre' : Hid (∀ t, t < k + 1 → fb t ≤ U) := fun t ht => by
          by_cases h9 : t < k
          · exact hpre.out t h9
          · have : t = k := by omega
            subst this; exact hle
        by_cases hcp : cp = 1
        · subst hcp
          go_wp2
          go_quiet (fail)
          go_wp2
          go_roundg 0
          case measure => omega
          case rel => exact ⟨k + 1, 0, _, by omega, by omega, rfl, fun h => absurd h (by omega), hpre', hI.out.drewN _⟩
        · go_wp2
          go_quiet (fail)
          go_wp2
          go_roundg (gk - 1)
          case measure => omega
          case rel => exact ⟨k + 1, cp - 1, _, by omega, by omega, rfl, fun h => by rw [Nat.add_assoc], hpre', hI.out.drewN _⟩
      · have hrr : Hid (¬ fb k ≤ U) := hle
        have hms : Hid (Mrg U la lb fa fb 0 k 0 fa) := mrg_start U la lb fa fb fa k hpre.out (fun q h1 h2 => by
          by_cases e : q = k
          · subst e; omega
          · have := va_asc hvb.out k q (by omega) h2; omega)
        have hadx : Hid (0 < gk → (some ⟨bb, ob + k, none⟩ : Option Addr) = some ⟨bb, ob + k, none⟩) := fun _ => rfl
        clear had
        go_wp2
        go_quiet (fail)
        go_wp2
        go_loopg [5, 6, 7] (la + gk) (fun g s5 s6 s7 wr => ∃ (i mi cpa jj mj cpb c : Nat) (ax bx : Option Addr) (out : Nat → Int), g = mi + mj ∧ i + mi = la ∧ jj + mj = lb ∧ mi ≤ cpa ∧ mj ≤ cpb ∧ c ≤ i + jj ∧ s5 = .slice (some ⟨w.heap.size + 1 + 1 + 1, 0, none⟩) c (la + lb) ∧ s6 = .slice ax mi cpa ∧ s7 = .slice bx mj cpb ∧ (0 < mi → ax = some ⟨ba, oa + i, none⟩) ∧ (0 < mj → bx = some ⟨bb, ob + jj, none⟩) ∧ Hid (Mrg U la lb fa fb i jj c out) ∧ Hid (Inv w s U V (.slice ada la ca) (.slice adb lb cb) (la + lb) c out wr))
        case atStart => exact ⟨0, la, ca, k, gk, cp, 0, ada, _, fa, rfl, by omega, hk, hca, hg, by omega, rfl, rfl, rfl, fun h => (HBA.out h).1, (by first | exact hadx.out | exact fun _ => rfl), hms, hI.out.drewN _⟩
        case round =>
          clear hms hadx hI hpre hk hg hrr r1 hmI
          obtain ⟨i, mi, cpa, jj, mj, cpb, c, ax, bx, out, hgk, hi, hj, hcpa, hcpb, hcij, rfl, rfl, rfl, hax, hbx, hM, hI⟩ := hrel
          have HA := va_asc hva.out
          have HB := va_asc hvb.out
          have HAA : Hid (Asc la fa) := HA
          have HAB : Hid (Asc lb fb) := HB
          clear HA HB
          by_cases hmi : 0 < mi
          · have ea := hax hmi
            subst ea
            have ca1 : wr.cell? ⟨ba, oa + i, none⟩ = some (.int .u64 (fa i)) := (hI.out.bel.cell (by exact (HBA.out (by omega)).2)).trans (HCA.out i (by omega))
            have hmiI : (0 : Int) < (mi : Int) := by omega
            have hmi1 : (1 : Int) ≤ (mi : Int) := by omega
            have ei : ((mi : Int) == 0) = false := beq_eq_false_iff_ne.2 (by omega)
            by_cases hmj : 0 < mj
            · have eb := hbx hmj
              subst eb
              have cb1 : wr.cell? ⟨bb, ob + jj, none⟩ = some (.int .u64 (fb jj)) := (hI.out.bel.cell (by exact (HBB.out (by omega)).2)).trans (HCB.out jj (by omega))
              have hmjI : (0 : Int) < (mj : Int) := by omega
              have hmj1 : (1 : Int) ≤ (mj : Int) := by omega
              have ej : ((mj : Int) == 0) = false := beq_eq_false_iff_ne.2 (by omega)
              by_cases h1 : fa i < fb jj
              · have HM' : Hid (Mrg U la lb fa fb (i + 1) jj (c + 1) (upd out c (fa i))) := hM.out.takeA HAA.out HAB.out (by omega) (fun _ => h1)
                by_cases hcpa1 : cpa = 1
                · subst hcpa1
                  go_wp2
                  go_quiet (fail)
                  go_wp2_with fail
                  have hIz : Inv w s U V (.slice ada la ca) (.slice adb lb cb) (la + lb) c out (wr.drewN nq) := hI.out.drewN nq
                  have ca1z : (wr.drewN nq).cell? ⟨ba, oa + i, none⟩ = some (.int .u64 (fa i)) := ca1
                  have cb1z : (wr.drewN nq).cell? ⟨bb, ob + jj, none⟩ = some (.int .u64 (fb jj)) := cb1
                  clear hI ca1 cb1
                  generalize wr.drewN nq = wz at hIz ca1z cb1z ⊢
                  have hI : Hid (Inv w s U V (.slice ada la ca) (.slice adb lb cb) (la + lb) c out wz) := hIz
                  clear hIz
                  have ca1 := ca1z
                  clear ca1z
                  have cb1 := cb1z
                  clear cb1z
                  have s1 : Hid (∀ j u, [Value.int .u64 (fa i)][j]? = some u → (wz.alloc (.cells #[.int .u64 (fa i)] 41)).cell? ((⟨wz.heap.size, 0, none⟩ : Addr).add j) = some u) := news_one wz _ 41
                  have s2 : Hid (∀ j, j < [Value.int .u64 (fa i)].length → ((wz.alloc (.cells #[.int .u64 (fa i)] 41)).cell? ⟨w.heap.size + 1 + 1 + 1, 0 + c * 1 + j, none⟩).isSome = true ∧ (wz.alloc (.cells #[.int .u64 (fa i)] 41)).frozen? ⟨w.heap.size + 1 + 1 + 1, 0 + c * 1 + j, none⟩ = false) := hI.out.spare (by omega) _ _
                  have s3 : Hid (∀ u ∈ [Value.int .u64 (fa i)], u.oneCell' = true) := by intro u hu; simp at hu; subst hu; rfl
                  go_region_law (refine step_append_room rfl (.tmp 76) (.tmp 80) 23 rfl 41 i0 1 Try.underlying23 hi0 hz1 (w.heap.size + 1 + 1 + 1) 0 c (la + lb) (by simp [Act.eval]) ⟨wz.heap.size, 0, none⟩ 1 1 [.int .u64 (fa i)] (by simp [Act.eval]) rfl s1.out s3.out (by omega) s2.out ?_)
                  go_wp2
                  go_roundg ((0) + (mj))
                  case measure => omega
                  case rel => exact ⟨i + 1, 0, 0, jj, mj, cpb, c + 1, _, _, upd out c (fa i), by omega, by omega, by omega, by omega, by omega, by omega, rfl, rfl, rfl, fun h => absurd h (by omega), fun _ => rfl, HM', inv_end hI.out _ _⟩
                · skip
                  go_wp2
                  go_quiet (fail)
                  go_wp2_with fail
                  have hIz : Inv w s U V (.slice ada la ca) (.slice adb lb cb) (la + lb) c out (wr.drewN nq) := hI.out.drewN nq
                  have ca1z : (wr.drewN nq).cell? ⟨ba, oa + i, none⟩ = some (.int .u64 (fa i)) := ca1
                  have cb1z : (wr.drewN nq).cell? ⟨bb, ob + jj, none⟩ = some (.int .u64 (fb jj)) := cb1
                  clear hI ca1 cb1
                  generalize wr.drewN nq = wz at hIz ca1z cb1z ⊢
                  have hI : Hid (Inv w s U V (.slice ada la ca) (.slice adb lb cb) (la + lb) c out wz) := hIz
                  clear hIz
                  have ca1 := ca1z
                  clear ca1z
                  have cb1 := cb1z
                  clear cb1z
                  have s1 : Hid (∀ j u, [Value.int .u64 (fa i)][j]? = some u → (wz.alloc (.cells #[.int .u64 (fa i)] 41)).cell? ((⟨wz.heap.size, 0, none⟩ : Addr).add j) = some u) := news_one wz _ 41
                  have s2 : Hid (∀ j, j < [Value.int .u64 (fa i)].length → ((wz.alloc (.cells #[.int .u64 (fa i)] 41)).cell? ⟨w.heap.size + 1 + 1 + 1, 0 + c * 1 + j, none⟩).isSome = true ∧ (wz.alloc (.cells #[.int .u64 (fa i)] 41)).frozen? ⟨w.heap.size + 1 + 1 + 1, 0 + c * 1 + j, none⟩ = false) := hI.out.spare (by omega) _ _
                  have s3 : Hid (∀ u ∈ [Value.int .u64 (fa i)], u.oneCell' = true) := by intro u hu; simp at hu; subst hu; rfl
                  go_region_law (refine step_append_room rfl (.tmp 76) (.tmp 80) 23 rfl 41 i0 1 Try.underlying23 hi0 hz1 (w.heap.size + 1 + 1 + 1) 0 c (la + lb) (by simp [Act.eval]) ⟨wz.heap.size, 0, none⟩ 1 1 [.int .u64 (fa i)] (by simp [Act.eval]) rfl s1.out s3.out (by omega) s2.out ?_)
                  go_wp2
                  go_roundg ((mi - 1) + (mj))
                  case measure => omega
                  case rel => exact ⟨i + 1, mi - 1, cpa - 1, jj, mj, cpb, c + 1, _, _, upd out c (fa i), by omega, by omega, by omega, by omega, by omega, by omega, rfl, rfl, rfl, fun _ => by rw [Nat.add_assoc], fun _ => rfl, HM', inv_end hI.out _ _⟩
              · by_cases h2 : fb jj < fa i
                · have HM' : Hid (Mrg U la lb fa fb i (jj + 1) (c + 1) (upd out c (fb jj))) := hM.out.takeB HAA.out HAB.out (by omega) (fun _ => h2)
                  by_cases hcpb1 : cpb = 1
                  · subst hcpb1
                    go_wp2
                    go_quiet (fail)
                    go_wp2_with fail
                    have hIz : Inv w s U V (.slice ada la ca) (.slice adb lb cb) (la + lb) c out (wr.drewN nq) := hI.out.drewN nq
                    have ca1z : (wr.drewN nq).cell? ⟨ba, oa + i, none⟩ = some (.int .u64 (fa i)) := ca1
                    have cb1z : (wr.drewN nq).cell? ⟨bb, ob + jj, none⟩ = some (.int .u64 (fb jj)) := cb1
                    clear hI ca1 cb1
                    generalize wr.drewN nq = wz at hIz ca1z cb1z ⊢
                    have hI : Hid (Inv w s U V (.slice ada la ca) (.slice adb lb cb) (la + lb) c out wz) := hIz
                    clear hIz
                    have ca1 := ca1z
                    clear ca1z
                    have cb1 := cb1z
                    clear cb1z
                    go_quiet (fail)
                    go_wp2_with fail
                    have hIz : Inv w s U V (.slice ada la ca) (.slice adb lb cb) (la + lb) c out (wz.drewN nq) := hI.out.drewN nq
                    have ca1z : (wz.drewN nq).cell? ⟨ba, oa + i, none⟩ = some (.int .u64 (fa i)) := ca1
                    have cb1z : (wz.drewN nq).cell? ⟨bb, ob + jj, none⟩ = some (.int .u64 (fb jj)) := cb1
                    clear hI ca1 cb1
                    generalize wz.drewN nq = wy at hIz ca1z cb1z ⊢
                    have hI : Hid (Inv w s U V (.slice ada la ca) (.slice adb lb cb) (la + lb) c out wy) := hIz
                    clear hIz
                    have ca1 := ca1z
                    clear ca1z
                    have cb1 := cb1z
                    clear cb1z
                    have s1 : Hid (∀ j u, [Value.int .u64 (fb jj)][j]? = some u → (wy.alloc (.cells #[.int .u64 (fb jj)] 41)).cell? ((⟨wy.heap.size, 0, none⟩ : Addr).add j) = some u) := news_one wy _ 41
                    have s2 : Hid (∀ j, j < [Value.int .u64 (fb jj)].length → ((wy.alloc (.cells #[.int .u64 (fb jj)] 41)).cell? ⟨w.heap.size + 1 + 1 + 1, 0 + c * 1 + j, none⟩).isSome = true ∧ (wy.alloc (.cells #[.int .u64 (fb jj)] 41)).frozen? ⟨w.heap.size + 1 + 1 + 1, 0 + c * 1 + j, none⟩ = false) := hI.out.spare (by omega) _ _
                    have s3 : Hid (∀ u ∈ [Value.int .u64 (fb jj)], u.oneCell' = true) := by intro u hu; simp at hu; subst hu; rfl
                    go_region_law (refine step_append_room rfl (.tmp 97) (.tmp 101) 23 rfl 41 i0 1 Try.underlying23 hi0 hz1 (w.heap.size + 1 + 1 + 1) 0 c (la + lb) (by simp [Act.eval]) ⟨wy.heap.size, 0, none⟩ 1 1 [.int .u64 (fb jj)] (by simp [Act.eval]) rfl s1.out s3.out (by omega) s2.out ?_)
                    go_wp2
                    go_roundg ((mi) + (0))
                    case measure => omega
                    case rel => exact ⟨i, mi, cpa, jj + 1, 0, 0, c + 1, _, _, upd out c (fb jj), by omega, by omega, by omega, by omega, by omega, by omega, rfl, rfl, rfl, fun _ => rfl, fun h => absurd h (by omega), HM', inv_end hI.out _ _⟩
                  · skip
                    go_wp2
                    go_quiet (fail)
                    go_wp2_with fail
                    have hIz : Inv w s U V (.slice ada la ca) (.slice adb lb cb) (la + lb) c out (wr.drewN nq) := hI.out.drewN nq
                    have ca1z : (wr.drewN nq).cell? ⟨ba, oa + i, none⟩ = some (.int .u64 (fa i)) := ca1
                    have cb1z : (wr.drewN nq).cell? ⟨bb, ob + jj, none⟩ = some (.int .u64 (fb jj)) := cb1
                    clear hI ca1 cb1
                    generalize wr.drewN nq = wz at hIz ca1z cb1z ⊢
                    have hI : Hid (Inv w s U V (.slice ada la ca) (.slice adb lb cb) (la + lb) c out wz) := hIz
                    clear hIz
                    have ca1 := ca1z
                    clear ca1z
                    have cb1 := cb1z
                    clear cb1z
                    go_quiet (fail)
                    go_wp2_with fail
                    have hIz : Inv w s U V (.slice ada la ca) (.slice adb lb cb) (la + lb) c out (wz.drewN nq) := hI.out.drewN nq
                    have ca1z : (wz.drewN nq).cell? ⟨ba, oa + i, none⟩ = some (.int .u64 (fa i)) := ca1
                    have cb1z : (wz.drewN nq).cell? ⟨bb, ob + jj, none⟩ = some (.int .u64 (fb jj)) := cb1
                    clear hI ca1 cb1
                    generalize wz.drewN nq = wy at hIz ca1z cb1z ⊢
                    have hI : Hid (Inv w s U V (.slice ada la ca) (.slice adb lb cb) (la + lb) c out wy) := hIz
                    clear hIz
                    have ca1 := ca1z
                    clear ca1z
                    have cb1 := cb1z
                    clear cb1z
                    have s1 : Hid (∀ j u, [Value.int .u64 (fb jj)][j]? = some u → (wy.alloc (.cells #[.int .u64 (fb jj)] 41)).cell? ((⟨wy.heap.size, 0, none⟩ : Addr).add j) = some u) := news_one wy _ 41
                    have s2 : Hid (∀ j, j < [Value.int .u64 (fb jj)].length → ((wy.alloc (.cells #[.int .u64 (fb jj)] 41)).cell? ⟨w.heap.size + 1 + 1 + 1, 0 + c * 1 + j, none⟩).isSome = true ∧ (wy.alloc (.cells #[.int .u64 (fb jj)] 41)).frozen? ⟨w.heap.size + 1 + 1 + 1, 0 + c * 1 + j, none⟩ = false) := hI.out.spare (by omega) _ _
                    have s3 : Hid (∀ u ∈ [Value.int .u64 (fb jj)], u.oneCell' = true) := by intro u hu; simp at hu; subst hu; rfl
                    go_region_law (refine step_append_room rfl (.tmp 97) (.tmp 101) 23 rfl 41 i0 1 Try.underlying23 hi0 hz1 (w.heap.size + 1 + 1 + 1) 0 c (la + lb) (by simp [Act.eval]) ⟨wy.heap.size, 0, none⟩ 1 1 [.int .u64 (fb jj)] (by simp [Act.eval]) rfl s1.out s3.out (by omega) s2.out ?_)
                    go_wp2
                    go_roundg ((mi) + (mj - 1))
                    case measure => omega
                    case rel => exact ⟨i, mi, cpa, jj + 1, mj - 1, cpb - 1, c + 1, _, _, upd out c (fb jj), by omega, by omega, by omega, by omega, by omega, by omega, rfl, rfl, rfl, fun _ => rfl, fun _ => by rw [Nat.add_assoc], HM', inv_end hI.out _ _⟩
                · have HM' : Hid (Mrg U la lb fa fb (i + 1) (jj + 1) (c + 1) (upd out c (fa i))) := hM.out.takeAB HAA.out HAB.out (by omega) (by omega) (by omega)
                  by_cases hcpa1 : cpa = 1
                  · subst hcpa1
                    by_cases hcpb1 : cpb = 1
                    · subst hcpb1
                      go_wp2
                      go_quiet (fail)
                      go_wp2_with fail
                      have hIz : Inv w s U V (.slice ada la ca) (.slice adb lb cb) (la + lb) c out (wr.drewN nq) := hI.out.drewN nq
                      have ca1z : (wr.drewN nq).cell? ⟨ba, oa + i, none⟩ = some (.int .u64 (fa i)) := ca1
                      have cb1z : (wr.drewN nq).cell? ⟨bb, ob + jj, none⟩ = some (.int .u64 (fb jj)) := cb1
                      clear hI ca1 cb1
                      generalize wr.drewN nq = wz at hIz ca1z cb1z ⊢
                      have hI : Hid (Inv w s U V (.slice ada la ca) (.slice adb lb cb) (la + lb) c out wz) := hIz
                      clear hIz
                      have ca1 := ca1z
                      clear ca1z
                      have cb1 := cb1z
                      clear cb1z
                      go_quiet (fail)
                      go_wp2_with fail
                      have hIz : Inv w s U V (.slice ada la ca) (.slice adb lb cb) (la + lb) c out (wz.drewN nq) := hI.out.drewN nq
                      have ca1z : (wz.drewN nq).cell? ⟨ba, oa + i, none⟩ = some (.int .u64 (fa i)) := ca1
                      have cb1z : (wz.drewN nq).cell? ⟨bb, ob + jj, none⟩ = some (.int .u64 (fb jj)) := cb1
                      clear hI ca1 cb1
                      generalize wz.drewN nq = wy at hIz ca1z cb1z ⊢
                      have hI : Hid (Inv w s U V (.slice ada la ca) (.slice adb lb cb) (la + lb) c out wy) := hIz
                      clear hIz
                      have ca1 := ca1z
                      clear ca1z
                      have cb1 := cb1z
                      clear cb1z
                      have s1 : Hid (∀ j u, [Value.int .u64 (fa i)][j]? = some u → (wy.alloc (.cells #[.int .u64 (fa i)] 41)).cell? ((⟨wy.heap.size, 0, none⟩ : Addr).add j) = some u) := news_one wy _ 41
                      have s2 : Hid (∀ j, j < [Value.int .u64 (fa i)].length → ((wy.alloc (.cells #[.int .u64 (fa i)] 41)).cell? ⟨w.heap.size + 1 + 1 + 1, 0 + c * 1 + j, none⟩).isSome = true ∧ (wy.alloc (.cells #[.int .u64 (fa i)] 41)).frozen? ⟨w.heap.size + 1 + 1 + 1, 0 + c * 1 + j, none⟩ = false) := hI.out.spare (by omega) _ _
                      have s3 : Hid (∀ u ∈ [Value.int .u64 (fa i)], u.oneCell' = true) := by intro u hu; simp at hu; subst hu; rfl
                      go_region_law (refine step_append_room rfl (.tmp 48) (.tmp 52) 23 rfl 41 i0 1 Try.underlying23 hi0 hz1 (w.heap.size + 1 + 1 + 1) 0 c (la + lb) (by simp [Act.eval]) ⟨wy.heap.size, 0, none⟩ 1 1 [.int .u64 (fa i)] (by simp [Act.eval]) rfl s1.out s3.out (by omega) s2.out ?_)
                      go_wp2
                      go_roundg ((0) + (0))
                      case measure => omega
                      case rel => exact ⟨i + 1, 0, 0, jj + 1, 0, 0, c + 1, _, _, upd out c (fa i), by omega, by omega, by omega, by omega, by omega, by omega, rfl, rfl, rfl, fun h => absurd h (by omega), fun h => absurd h (by omega), HM', inv_end hI.out _ _⟩
                    · skip
                      go_wp2
                      go_quiet (fail)
                      go_wp2_with fail
                      have hIz : Inv w s U V (.slice ada la ca) (.slice adb lb cb) (la + lb) c out (wr.drewN nq) := hI.out.drewN nq
                      have ca1z : (wr.drewN nq).cell? ⟨ba, oa + i, none⟩ = some (.int .u64 (fa i)) := ca1
                      have cb1z : (wr.drewN nq).cell? ⟨bb, ob + jj, none⟩ = some (.int .u64 (fb jj)) := cb1
                      clear hI ca1 cb1
                      generalize wr.drewN nq = wz at hIz ca1z cb1z ⊢
                      have hI : Hid (Inv w s U V (.slice ada la ca) (.slice adb lb cb) (la + lb) c out wz) := hIz
                      clear hIz
                      have ca1 := ca1z
                      clear ca1z
                      have cb1 := cb1z
                      clear cb1z
                      go_quiet (fail)
                      go_wp2_with fail
                      have hIz : Inv w s U V (.slice ada la ca) (.slice adb lb cb) (la + lb) c out (wz.drewN nq) := hI.out.drewN nq
                      have ca1z : (wz.drewN nq).cell? ⟨ba, oa + i, none⟩ = some (.int .u64 (fa i)) := ca1
                      have cb1z : (wz.drewN nq).cell? ⟨bb, ob + jj, none⟩ = some (.int .u64 (fb jj)) := cb1
                      clear hI ca1 cb1
                      generalize wz.drewN nq = wy at hIz ca1z cb1z ⊢
                      have hI : Hid (Inv w s U V (.slice ada la ca) (.slice adb lb cb) (la + lb) c out wy) := hIz
                      clear hIz
                      have ca1 := ca1z
                      clear ca1z
                      have cb1 := cb1z
                      clear cb1z
                      have s1 : Hid (∀ j u, [Value.int .u64 (fa i)][j]? = some u → (wy.alloc (.cells #[.int .u64 (fa i)] 41)).cell? ((⟨wy.heap.size, 0, none⟩ : Addr).add j) = some u) := news_one wy _ 41
                      have s2 : Hid (∀ j, j < [Value.int .u64 (fa i)].length → ((wy.alloc (.cells #[.int .u64 (fa i)] 41)).cell? ⟨w.heap.size + 1 + 1 + 1, 0 + c * 1 + j, none⟩).isSome = true ∧ (wy.alloc (.cells #[.int .u64 (fa i)] 41)).frozen? ⟨w.heap.size + 1 + 1 + 1, 0 + c * 1 + j, none⟩ = false) := hI.out.spare (by omega) _ _
                      have s3 : Hid (∀ u ∈ [Value.int .u64 (fa i)], u.oneCell' = true) := by intro u hu; simp at hu; subst hu; rfl
                      go_region_law (refine step_append_room rfl (.tmp 48) (.tmp 52) 23 rfl 41 i0 1 Try.underlying23 hi0 hz1 (w.heap.size + 1 + 1 + 1) 0 c (la + lb) (by simp [Act.eval]) ⟨wy.heap.size, 0, none⟩ 1 1 [.int .u64 (fa i)] (by simp [Act.eval]) rfl s1.out s3.out (by omega) s2.out ?_)
                      go_wp2
                      go_roundg ((0) + (mj - 1))
                      case measure => omega
                      case rel => exact ⟨i + 1, 0, 0, jj + 1, mj - 1, cpb - 1, c + 1, _, _, upd out c (fa i), by omega, by omega, by omega, by omega, by omega, by omega, rfl, rfl, rfl, fun h => absurd h (by omega), fun _ => by rw [Nat.add_assoc], HM', inv_end hI.out _ _⟩
                  · by_cases hcpb1 : cpb = 1
                    · subst hcpb1
                      go_wp2
                      go_quiet (fail)
                      go_wp2_with fail
                      have hIz : Inv w s U V (.slice ada la ca) (.slice adb lb cb) (la + lb) c out (wr.drewN nq) := hI.out.drewN nq
                      have ca1z : (wr.drewN nq).cell? ⟨ba, oa + i, none⟩ = some (.int .u64 (fa i)) := ca1
                      have cb1z : (wr.drewN nq).cell? ⟨bb, ob + jj, none⟩ = some (.int .u64 (fb jj)) := cb1
                      clear hI ca1 cb1
                      generalize wr.drewN nq = wz at hIz ca1z cb1z ⊢
                      have hI : Hid (Inv w s U V (.slice ada la ca) (.slice adb lb cb) (la + lb) c out wz) := hIz
                      clear hIz
                      have ca1 := ca1z
                      clear ca1z
                      have cb1 := cb1z
                      clear cb1z
                      go_quiet (fail)
                      go_wp2_with fail
                      have hIz : Inv w s U V (.slice ada la ca) (.slice adb lb cb) (la + lb) c out (wz.drewN nq) := hI.out.drewN nq
                      have ca1z : (wz.drewN nq).cell? ⟨ba, oa + i, none⟩ = some (.int .u64 (fa i)) := ca1
                      have cb1z : (wz.drewN nq).cell? ⟨bb, ob + jj, none⟩ = some (.int .u64 (fb jj)) := cb1
                      clear hI ca1 cb1
                      generalize wz.drewN nq = wy at hIz ca1z cb1z ⊢
                      have hI : Hid (Inv w s U V (.slice ada la ca) (.slice adb lb cb) (la + lb) c out wy) := hIz
                      clear hIz
                      have ca1 := ca1z
                      clear ca1z
                      have cb1 := cb1z
                      clear cb1z
                      have s1 : Hid (∀ j u, [Value.int .u64 (fa i)][j]? = some u → (wy.alloc (.cells #[.int .u64 (fa i)] 41)).cell? ((⟨wy.heap.size, 0, none⟩ : Addr).add j) = some u) := news_one wy _ 41
                      have s2 : Hid (∀ j, j < [Value.int .u64 (fa i)].length → ((wy.alloc (.cells #[.int .u64 (fa i)] 41)).cell? ⟨w.heap.size + 1 + 1 + 1, 0 + c * 1 + j, none⟩).isSome = true ∧ (wy.alloc (.cells #[.int .u64 (fa i)] 41)).frozen? ⟨w.heap.size + 1 + 1 + 1, 0 + c * 1 + j, none⟩ = false) := hI.out.spare (by omega) _ _
                      have s3 : Hid (∀ u ∈ [Value.int .u64 (fa i)], u.oneCell' = true) := by intro u hu; simp at hu; subst hu; rfl
                      go_region_law (refine step_append_room rfl (.tmp 48) (.tmp 52) 23 rfl 41 i0 1 Try.underlying23 hi0 hz1 (w.heap.size + 1 + 1 + 1) 0 c (la + lb) (by simp [Act.eval]) ⟨wy.heap.size, 0, none⟩ 1 1 [.int .u64 (fa i)] (by simp [Act.eval]) rfl s1.out s3.out (by omega) s2.out ?_)
                      go_wp2
                      go_roundg ((mi - 1) + (0))
                      case measure => omega
                      case rel => exact ⟨i + 1, mi - 1, cpa - 1, jj + 1, 0, 0, c + 1, _, _, upd out c (fa i), by omega, by omega, by omega, by omega, by omega, by omega, rfl, rfl, rfl, fun _ => by rw [Nat.add_assoc], fun h => absurd h (by omega), HM', inv_end hI.out _ _⟩
                    · skip
                      go_wp2
                      go_quiet (fail)
                      go_wp2_with fail
                      have hIz : Inv w s U V (.slice ada la ca) (.slice adb lb cb) (la + lb) c out (wr.drewN nq) := hI.out.drewN nq
                      have ca1z : (wr.drewN nq).cell? ⟨ba, oa + i, none⟩ = some (.int .u64 (fa i)) := ca1
                      have cb1z : (wr.drewN nq).cell? ⟨bb, ob + jj, none⟩ = some (.int .u64 (fb jj)) := cb1
                      clear hI ca1 cb1
                      generalize wr.drewN nq = wz at hIz ca1z cb1z ⊢
                      have hI : Hid (Inv w s U V (.slice ada la ca) (.slice adb lb cb) (la + lb) c out wz) := hIz
                      clear hIz
                      have ca1 := ca1z
                      clear ca1z
                      have cb1 := cb1z
                      clear cb1z
                      go_quiet (fail)
                      go_wp2_with fail
                      have hIz : Inv w s U V (.slice ada la ca) (.slice adb lb cb) (la + lb) c out (wz.drewN nq) := hI.out.drewN nq
                      have ca1z : (wz.drewN nq).cell? ⟨ba, oa + i, none⟩ = some (.int .u64 (fa i)) := ca1
                      have cb1z : (wz.drewN nq).cell? ⟨bb, ob + jj, none⟩ = some (.int .u64 (fb jj)) := cb1
                      clear hI ca1 cb1
                      generalize wz.drewN nq = wy at hIz ca1z cb1z ⊢
                      have hI : Hid (Inv w s U V (.slice ada la ca) (.slice adb lb cb) (la + lb) c out wy) := hIz
                      clear hIz
                      have ca1 := ca1z
                      clear ca1z
                      have cb1 := cb1z
                      clear cb1z
                      have s1 : Hid (∀ j u, [Value.int .u64 (fa i)][j]? = some u → (wy.alloc (.cells #[.int .u64 (fa i)] 41)).cell? ((⟨wy.heap.size, 0, none⟩ : Addr).add j) = some u) := news_one wy _ 41
                      have s2 : Hid (∀ j, j < [Value.int .u64 (fa i)].length → ((wy.alloc (.cells #[.int .u64 (fa i)] 41)).cell? ⟨w.heap.size + 1 + 1 + 1, 0 + c * 1 + j, none⟩).isSome = true ∧ (wy.alloc (.cells #[.int .u64 (fa i)] 41)).frozen? ⟨w.heap.size + 1 + 1 + 1, 0 + c * 1 + j, none⟩ = false) := hI.out.spare (by omega) _ _
                      have s3 : Hid (∀ u ∈ [Value.int .u64 (fa i)], u.oneCell' = true) := by intro u hu; simp at hu; subst hu; rfl
                      go_region_law (refine step_append_room rfl (.tmp 48) (.tmp 52) 23 rfl 41 i0 1 Try.underlying23 hi0 hz1 (w.heap.size + 1 + 1 + 1) 0 c (la + lb) (by simp [Act.eval]) ⟨wy.heap.size, 0, none⟩ 1 1 [.int .u64 (fa i)] (by simp [Act.eval]) rfl s1.out s3.out (by omega) s2.out ?_)
                      go_wp2
                      go_roundg ((mi - 1) + (mj - 1))
                      case measure => omega
                      case rel => exact ⟨i + 1, mi - 1, cpa - 1, jj + 1, mj - 1, cpb - 1, c + 1, _, _, upd out c (fa i), by omega, by omega, by omega, by omega, by omega, by omega, rfl, rfl, rfl, fun _ => by rw [Nat.add_assoc], fun _ => by rw [Nat.add_assoc], HM', inv_end hI.out _ _⟩
            · have ej : ((mj : Int) == 0) = true := beq_iff_eq.2 (by omega)
              have HM' : Hid (Mrg U la lb fa fb (i + 1) jj (c + 1) (upd out c (fa i))) := hM.out.takeA HAA.out HAB.out (by omega) (fun h => absurd h (by omega))
              by_cases hcpa1 : cpa = 1
              · subst hcpa1
                go_wp2
                go_quiet (fail)
                go_wp2_with fail
                have hIz : Inv w s U V (.slice ada la ca) (.slice adb lb cb) (la + lb) c out (wr.drewN nq) := hI.out.drewN nq
                have ca1z : (wr.drewN nq).cell? ⟨ba, oa + i, none⟩ = some (.int .u64 (fa i)) := ca1
                clear hI ca1
                generalize wr.drewN nq = wz at hIz ca1z ⊢
                have hI : Hid (Inv w s U V (.slice ada la ca) (.slice adb lb cb) (la + lb) c out wz) := hIz
                clear hIz
                have ca1 := ca1z
                clear ca1z
                have s1 : Hid (∀ j u, [Value.int .u64 (fa i)][j]? = some u → (wz.alloc (.cells #[.int .u64 (fa i)] 41)).cell? ((⟨wz.heap.size, 0, none⟩ : Addr).add j) = some u) := news_one wz _ 41
                have s2 : Hid (∀ j, j < [Value.int .u64 (fa i)].length → ((wz.alloc (.cells #[.int .u64 (fa i)] 41)).cell? ⟨w.heap.size + 1 + 1 + 1, 0 + c * 1 + j, none⟩).isSome = true ∧ (wz.alloc (.cells #[.int .u64 (fa i)] 41)).frozen? ⟨w.heap.size + 1 + 1 + 1, 0 + c * 1 + j, none⟩ = false) := hI.out.spare (by omega) _ _
                have s3 : Hid (∀ u ∈ [Value.int .u64 (fa i)], u.oneCell' = true) := by intro u hu; simp at hu; subst hu; rfl
                go_region_law (refine step_append_room rfl (.tmp 76) (.tmp 80) 23 rfl 41 i0 1 Try.underlying23 hi0 hz1 (w.heap.size + 1 + 1 + 1) 0 c (la + lb) (by simp [Act.eval]) ⟨wz.heap.size, 0, none⟩ 1 1 [.int .u64 (fa i)] (by simp [Act.eval]) rfl s1.out s3.out (by omega) s2.out ?_)
                go_wp2
                go_roundg ((0) + (mj))
                case measure => omega
                case rel => exact ⟨i + 1, 0, 0, jj, mj, cpb, c + 1, _, _, upd out c (fa i), by omega, by omega, by omega, by omega, by omega, by omega, rfl, rfl, rfl, fun h => absurd h (by omega), hbx, HM', inv_end hI.out _ _⟩
              · skip
                go_wp2
                go_quiet (fail)
                go_wp2_with fail
                have hIz : Inv w s U V (.slice ada la ca) (.slice adb lb cb) (la + lb) c out (wr.drewN nq) := hI.out.drewN nq
                have ca1z : (wr.drewN nq).cell? ⟨ba, oa + i, none⟩ = some (.int .u64 (fa i)) := ca1
                clear hI ca1
                generalize wr.drewN nq = wz at hIz ca1z ⊢
                have hI : Hid (Inv w s U V (.slice ada la ca) (.slice adb lb cb) (la + lb) c out wz) := hIz
                clear hIz
                have ca1 := ca1z
                clear ca1z
                have s1 : Hid (∀ j u, [Value.int .u64 (fa i)][j]? = some u → (wz.alloc (.cells #[.int .u64 (fa i)] 41)).cell? ((⟨wz.heap.size, 0, none⟩ : Addr).add j) = some u) := news_one wz _ 41
                have s2 : Hid (∀ j, j < [Value.int .u64 (fa i)].length → ((wz.alloc (.cells #[.int .u64 (fa i)] 41)).cell? ⟨w.heap.size + 1 + 1 + 1, 0 + c * 1 + j, none⟩).isSome = true ∧ (wz.alloc (.cells #[.int .u64 (fa i)] 41)).frozen? ⟨w.heap.size + 1 + 1 + 1, 0 + c * 1 + j, none⟩ = false) := hI.out.spare (by omega) _ _
                have s3 : Hid (∀ u ∈ [Value.int .u64 (fa i)], u.oneCell' = true) := by intro u hu; simp at hu; subst hu; rfl
                go_region_law (refine step_append_room rfl (.tmp 76) (.tmp 80) 23 rfl 41 i0 1 Try.underlying23 hi0 hz1 (w.heap.size + 1 + 1 + 1) 0 c (la + lb) (by simp [Act.eval]) ⟨wz.heap.size, 0, none⟩ 1 1 [.int .u64 (fa i)] (by simp [Act.eval]) rfl s1.out s3.out (by omega) s2.out ?_)
                go_wp2
                go_roundg ((mi - 1) + (mj))
                case measure => omega
                case rel => exact ⟨i + 1, mi - 1, cpa - 1, jj, mj, cpb, c + 1, _, _, upd out c (fa i), by omega, by omega, by omega, by omega, by omega, by omega, rfl, rfl, rfl, fun _ => by rw [Nat.add_assoc], hbx, HM', inv_end hI.out _ _⟩
          · by_cases hmj : 0 < mj
            · have eb := hbx hmj
              subst eb
              have cb1 : wr.cell? ⟨bb, ob + jj, none⟩ = some (.int .u64 (fb jj)) := (hI.out.bel.cell (by exact (HBB.out (by omega)).2)).trans (HCB.out jj (by omega))
              have hmjI : (0 : Int) < (mj : Int) := by omega
              have hmj1 : (1 : Int) ≤ (mj : Int) := by omega
              have ej : ((mj : Int) == 0) = false := beq_eq_false_iff_ne.2 (by omega)
              have ei : ((mi : Int) == 0) = true := beq_iff_eq.2 (by omega)
              have hmiD : decide (0 < mi) = false := by rw [decide_eq_false_iff_not]; omega
              have HM' : Hid (Mrg U la lb fa fb i (jj + 1) (c + 1) (upd out c (fb jj))) := hM.out.takeB HAA.out HAB.out (by omega) (fun h => absurd h (by omega))
              by_cases hcpb1 : cpb = 1
              · subst hcpb1
                go_wp2
                go_quiet (fail)
                go_wp2_with fail
                have hIz : Inv w s U V (.slice ada la ca) (.slice adb lb cb) (la + lb) c out (wr.drewN nq) := hI.out.drewN nq
                have cb1z : (wr.drewN nq).cell? ⟨bb, ob + jj, none⟩ = some (.int .u64 (fb jj)) := cb1
                clear hI cb1
                generalize wr.drewN nq = wz at hIz cb1z ⊢
                have hI : Hid (Inv w s U V (.slice ada la ca) (.slice adb lb cb) (la + lb) c out wz) := hIz
                clear hIz
                have cb1 := cb1z
                clear cb1z
                go_quiet (fail)
                go_wp2_with fail
                have hIz : Inv w s U V (.slice ada la ca) (.slice adb lb cb) (la + lb) c out (wz.drewN nq) := hI.out.drewN nq
                have cb1z : (wz.drewN nq).cell? ⟨bb, ob + jj, none⟩ = some (.int .u64 (fb jj)) := cb1
                clear hI cb1
                generalize wz.drewN nq = wy at hIz cb1z ⊢
                have hI : Hid (Inv w s U V (.slice ada la ca) (.slice adb lb cb) (la + lb) c out wy) := hIz
                clear hIz
                have cb1 := cb1z
                clear cb1z
                have s1 : Hid (∀ j u, [Value.int .u64 (fb jj)][j]? = some u → (wy.alloc (.cells #[.int .u64 (fb jj)] 41)).cell? ((⟨wy.heap.size, 0, none⟩ : Addr).add j) = some u) := news_one wy _ 41
                have s2 : Hid (∀ j, j < [Value.int .u64 (fb jj)].length → ((wy.alloc (.cells #[.int .u64 (fb jj)] 41)).cell? ⟨w.heap.size + 1 + 1 + 1, 0 + c * 1 + j, none⟩).isSome = true ∧ (wy.alloc (.cells #[.int .u64 (fb jj)] 41)).frozen? ⟨w.heap.size + 1 + 1 + 1, 0 + c * 1 + j, none⟩ = false) := hI.out.spare (by omega) _ _
                have s3 : Hid (∀ u ∈ [Value.int .u64 (fb jj)], u.oneCell' = true) := by intro u hu; simp at hu; subst hu; rfl
                go_region_law (refine step_append_room rfl (.tmp 97) (.tmp 101) 23 rfl 41 i0 1 Try.underlying23 hi0 hz1 (w.heap.size + 1 + 1 + 1) 0 c (la + lb) (by simp [Act.eval]) ⟨wy.heap.size, 0, none⟩ 1 1 [.int .u64 (fb jj)] (by simp [Act.eval]) rfl s1.out s3.out (by omega) s2.out ?_)
                go_wp2
                go_roundg ((mi) + (0))
                case measure => omega
                case rel => exact ⟨i, mi, cpa, jj + 1, 0, 0, c + 1, _, _, upd out c (fb jj), by omega, by omega, by omega, by omega, by omega, by omega, rfl, rfl, rfl, hax, fun h => absurd h (by omega), HM', inv_end hI.out _ _⟩
              · skip
                go_wp2
                go_quiet (fail)
                go_wp2_with fail
                have hIz : Inv w s U V (.slice ada la ca) (.slice adb lb cb) (la + lb) c out (wr.drewN nq) := hI.out.drewN nq
                have cb1z : (wr.drewN nq).cell? ⟨bb, ob + jj, none⟩ = some (.int .u64 (fb jj)) := cb1
                clear hI cb1
                generalize wr.drewN nq = wz at hIz cb1z ⊢
                have hI : Hid (Inv w s U V (.slice ada la ca) (.slice adb lb cb) (la + lb) c out wz) := hIz
                clear hIz
                have cb1 := cb1z
                clear cb1z
                go_quiet (fail)
                go_wp2_with fail
                have hIz : Inv w s U V (.slice ada la ca) (.slice adb lb cb) (la + lb) c out (wz.drewN nq) := hI.out.drewN nq
                have cb1z : (wz.drewN nq).cell? ⟨bb, ob + jj, none⟩ = some (.int .u64 (fb jj)) := cb1
                clear hI cb1
                generalize wz.drewN nq = wy at hIz cb1z ⊢
                have hI : Hid (Inv w s U V (.slice ada la ca) (.slice adb lb cb) (la + lb) c out wy) := hIz
                clear hIz
                have cb1 := cb1z
                clear cb1z
                have s1 : Hid (∀ j u, [Value.int .u64 (fb jj)][j]? = some u → (wy.alloc (.cells #[.int .u64 (fb jj)] 41)).cell? ((⟨wy.heap.size, 0, none⟩ : Addr).add j) = some u) := news_one wy _ 41
                have s2 : Hid (∀ j, j < [Value.int .u64 (fb jj)].length → ((wy.alloc (.cells #[.int .u64 (fb jj)] 41)).cell? ⟨w.heap.size + 1 + 1 + 1, 0 + c * 1 + j, none⟩).isSome = true ∧ (wy.alloc (.cells #[.int .u64 (fb jj)] 41)).frozen? ⟨w.heap.size + 1 + 1 + 1, 0 + c * 1 + j, none⟩ = false) := hI.out.spare (by omega) _ _
                have s3 : Hid (∀ u ∈ [Value.int .u64 (fb jj)], u.oneCell' = true) := by intro u hu; simp at hu; subst hu; rfl
                go_region_law (refine step_append_room rfl (.tmp 97) (.tmp 101) 23 rfl 41 i0 1 Try.underlying23 hi0 hz1 (w.heap.size + 1 + 1 + 1) 0 c (la + lb) (by simp [Act.eval]) ⟨wy.heap.size, 0, none⟩ 1 1 [.int .u64 (fb jj)] (by simp [Act.eval]) rfl s1.out s3.out (by omega) s2.out ?_)
                go_wp2
                go_roundg ((mi) + (mj - 1))
                case measure => omega
                case rel => exact ⟨i, mi, cpa, jj + 1, mj - 1, cpb - 1, c + 1, _, _, upd out c (fb jj), by omega, by omega, by omega, by omega, by omega, by omega, rfl, rfl, rfl, hax, fun _ => by rw [Nat.add_assoc], HM', inv_end hI.out _ _⟩
            · have d1 : ¬ (0 : Int) < (mi : Int) := by omega
              have d2 : ¬ (0 : Int) < (mj : Int) := by omega
              have k2 := hI.out.r0.frozen 2
              have r2 : wr.cell? ⟨w.heap.size, 2, none⟩ = some (.slice ada la ca) := hI.out.r0.cell (i := 2) (by omega)
              have eI : i = la := by omega
              have eJ : jj = lb := by omega
              have hML : Hid (Mrg U la lb fa fb la lb c out) := by have h9 := hM.out; rw [eI, eJ] at h9; exact h9
              clear eI eJ
              go_wp2_with fail
              refine (absorb_inv hI.out hML.out hU hV.1 (by omega) hza.out hzb.out hva.out hvb.out (by omega) (by omega)).mono ?_
              rintro e w1 ⟨rfl, U', L', f', ad', cp', hD⟩
              have HD : Hid (Done w s U V la lb fa fb U' L' f' ad' cp' w1) := hD
              have q0 : w1.cell? ⟨w.heap.size, 0, none⟩ = some (.string s) := hD.r0.cell (i := 0) (by omega)
              have q1 : w1.cell? ⟨w.heap.size, 1, none⟩ = some (.int .u64 U') := hD.r0.cell (i := 1) (by omega)
              have q2 : w1.cell? ⟨w.heap.size, 2, none⟩ = some (.slice ad' L' cp') := hD.r0.cell (i := 2) (by omega)
              have p0 : w1.cell? ⟨w.heap.size + 1 + 1, 0, none⟩ = some (.string ⟨#[]⟩) := hD.r2.cell (i := 0) (by omega)
              have p1 : w1.cell? ⟨w.heap.size + 1 + 1, 1, none⟩ = some (.int .u64 0) := hD.r2.cell (i := 1) (by omega)
              have p2 : w1.cell? ⟨w.heap.size + 1 + 1, 2, none⟩ = some (.slice none 0 0) := hD.r2.cell (i := 2) (by omega)
              have f0 := hD.r2.frozen 0
              have f1 := hD.r2.frozen 1
              have f2 := hD.r2.frozen 2
              have hsz : w.heap.size + 1 + 1 < w1.heap.size := by have := hD.size; omega
              clear hD hI k2 r2
              go_wp2
              obtain ⟨x0, x1, x2⟩ := fin_cells HD.out.r2 (.string s) (.int .u64 U') (.slice ad' L' cp')
              exact bodyPost_ret (v := .agg #[.string s, .int .u64 U', .slice ad' L' cp']) (by simp [results, Try.results32, go_sem, x0, x1, x2]) rfl (done_post HD.out ((((Only.refl _ _).setCell 0 _).setCell 1 _).setCell 2 _))
    · have hmI : decide (0 < gk) = false := by rw [decide_eq_false_iff_not]; omega
      have hrr : Hid (gk ≤ 0) := by show gk ≤ 0; omega
      have hms : Hid (Mrg U la lb fa fb 0 k 0 fa) := mrg_start U la lb fa fb fa k hpre.out (fun q h1 h2 => by omega)
      have hadx : Hid (0 < gk → ad = some ⟨bb, ob + k, none⟩) := had
      clear had
      go_wp2
      go_quiet (fail)
      go_wp2
      go_loopg [5, 6, 7] (la + gk) (fun g s5 s6 s7 wr => ∃ (i mi cpa jj mj cpb c : Nat) (ax bx : Option Addr) (out : Nat → Int), g = mi + mj ∧ i + mi = la ∧ jj + mj = lb ∧ mi ≤ cpa ∧ mj ≤ cpb ∧ c ≤ i + jj ∧ s5 = .slice (some ⟨w.heap.size + 1 + 1 + 1, 0, none⟩) c (la + lb) ∧ s6 = .slice ax mi cpa ∧ s7 = .slice bx mj cpb ∧ (0 < mi → ax = some ⟨ba, oa + i, none⟩) ∧ (0 < mj → bx = some ⟨bb, ob + jj, none⟩) ∧ Hid (Mrg U la lb fa fb i jj c out) ∧ Hid (Inv w s U V (.slice ada la ca) (.slice adb lb cb) (la + lb) c out wr))
      case atStart => exact ⟨0, la, ca, k, gk, cp, 0, ada, _, fa, rfl, by omega, hk, hca, hg, by omega, rfl, rfl, rfl, fun h => (HBA.out h).1, (by first | exact hadx.out | exact fun _ => rfl), hms, hI.out.drewN _⟩
      case round =>
        clear hms hadx hI hpre hk hg hrr r1 hmI
        obtain ⟨i, mi, cpa, jj, mj, cpb, c, ax, bx, out, hgk, hi, hj, hcpa, hcpb, hcij, rfl, rfl, rfl, hax, hbx, hM, hI⟩ := hrel
        have HA := va_asc hva.out
        have HB := va_asc hvb.out
        have HAA : Hid (Asc la fa) := HA
        have HAB : Hid (Asc lb fb) := HB
        clear HA HB
        by_cases hmi : 0 < mi
        · have ea := hax hmi
          subst ea
          have ca1 : wr.cell? ⟨ba, oa + i, none⟩ = some (.int .u64 (fa i)) := (hI.out.bel.cell (by exact (HBA.out (by omega)).2)).trans (HCA.out i (by omega))
          have hmiI : (0 : Int) < (mi : Int) := by omega
          have hmi1 : (1 : Int) ≤ (mi : Int) := by omega
          have ei : ((mi : Int) == 0) = false := beq_eq_false_iff_ne.2 (by omega)
          by_cases hmj : 0 < mj
          · have eb := hbx hmj
            subst eb
            have cb1 : wr.cell? ⟨bb, ob + jj, none⟩ = some (.int .u64 (fb jj)) := (hI.out.bel.cell (by exact (HBB.out (by omega)).2)).trans (HCB.out jj (by omega))
            have hmjI : (0 : Int) < (mj : Int) := by omega
            have hmj1 : (1 : Int) ≤ (mj : Int) := by omega
            have ej : ((mj : Int) == 0) = false := beq_eq_false_iff_ne.2 (by omega)
            by_cases h1 : fa i < fb jj
            · have HM' : Hid (Mrg U la lb fa fb (i + 1) jj (c + 1) (upd out c (fa i))) := hM.out.takeA HAA.out HAB.out (by omega) (fun _ => h1)
              by_cases hcpa1 : cpa = 1
              · subst hcpa1
                go_wp2
                go_quiet (fail)
                go_wp2_with fail
                have hIz : Inv w s U V (.slice ada la ca) (.slice adb lb cb) (la + lb) c out (wr.drewN nq) := hI.out.drewN nq
                have ca1z : (wr.drewN nq).cell? ⟨ba, oa + i, none⟩ = some (.int .u64 (fa i)) := ca1
                have cb1z : (wr.drewN nq).cell? ⟨bb, ob + jj, none⟩ = some (.int .u64 (fb jj)) := cb1
                clear hI ca1 cb1
                generalize wr.drewN nq = wz at hIz ca1z cb1z ⊢
                have hI : Hid (Inv w s U V (.slice ada la ca) (.slice adb lb cb) (la + lb) c out wz) := hIz
                clear hIz
                have ca1 := ca1z
                clear ca1z
                have cb1 := cb1z
                clear cb1z
                have s1 : Hid (∀ j u, [Value.int .u64 (fa i)][j]? = some u → (wz.alloc (.cells #[.int .u64 (fa i)] 41)).cell? ((⟨wz.heap.size, 0, none⟩ : Addr).add j) = some u) := news_one wz _ 41
                have s2 : Hid (∀ j, j < [Value.int .u64 (fa i)].length → ((wz.alloc (.cells #[.int .u64 (fa i)] 41)).cell? ⟨w.heap.size + 1 + 1 + 1, 0 + c * 1 + j, none⟩).isSome = true ∧ (wz.alloc (.cells #[.int .u64 (fa i)] 41)).frozen? ⟨w.heap.size + 1 + 1 + 1, 0 + c * 1 + j, none⟩ = false) := hI.out.spare (by omega) _ _
                have s3 : Hid (∀ u ∈ [Value.int .u64 (fa i)], u.oneCell' = true) := by intro u hu; simp at hu; subst hu; rfl
                go_region_law (refine step_append_room rfl (.tmp 76) (.tmp 80) 23 rfl 41 i0 1 Try.underlying23 hi0 hz1 (w.heap.size + 1 + 1 + 1) 0 c (la + lb) (by simp [Act.eval]) ⟨wz.heap.size, 0, none⟩ 1 1 [.int .u64 (fa i)] (by simp [Act.eval]) rfl s1.out s3.out (by omega) s2.out ?_)
                go_wp2
                go_roundg ((0) + (mj))
                case measure => omega
                case rel => exact ⟨i + 1, 0, 0, jj, mj, cpb, c + 1, _, _, upd out c (fa i), by omega, by omega, by omega, by omega, by omega, by omega, rfl, rfl, rfl, fun h => absurd h (by omega), fun _ => rfl, HM', inv_end hI.out _ _⟩
              · skip
                go_wp2
                go_quiet (fail)
                go_wp2_with fail
                have hIz : Inv w s U V (.slice ada la ca) (.slice adb lb cb) (la + lb) c out (wr.drewN nq) := hI.out.drewN nq
                have ca1z : (wr.drewN nq).cell? ⟨ba, oa + i, none⟩ = some (.int .u64 (fa i)) := ca1
                have cb1z : (wr.drewN nq).cell? ⟨bb, ob + jj, none⟩ = some (.int .u64 (fb jj)) := cb1
                clear hI ca1 cb1
                generalize wr.drewN nq = wz at hIz ca1z cb1z ⊢
                have hI : Hid (Inv w s U V (.slice ada la ca) (.slice adb lb cb) (la + lb) c out wz) := hIz
                clear hIz
                have ca1 := ca1z
                clear ca1z
                have cb1 := cb1z
                clear cb1z
                have s1 : Hid (∀ j u, [Value.int .u64 (fa i)][j]? = some u → (wz.alloc (.cells #[.int .u64 (fa i)] 41)).cell? ((⟨wz.heap.size, 0, none⟩ : Addr).add j) = some u) := news_one wz _ 41
                have s2 : Hid (∀ j, j < [Value.int .u64 (fa i)].length → ((wz.alloc (.cells #[.int .u64 (fa i)] 41)).cell? ⟨w.heap.size + 1 + 1 + 1, 0 + c * 1 + j, none⟩).isSome = true ∧ (wz.alloc (.cells #[.int .u64 (fa i)] 41)).frozen? ⟨w.heap.size + 1 + 1 + 1, 0 + c * 1 + j, none⟩ = false) := hI.out.spare (by omega) _ _
                have s3 : Hid (∀ u ∈ [Value.int .u64 (fa i)], u.oneCell' = true) := by intro u hu; simp at hu; subst hu; rfl
                go_region_law (refine step_append_room rfl (.tmp 76) (.tmp 80) 23 rfl 41 i0 1 Try.underlying23 hi0 hz1 (w.heap.size + 1 + 1 + 1) 0 c (la + lb) (by simp [Act.eval]) ⟨wz.heap.size, 0, none⟩ 1 1 [.int .u64 (fa i)] (by simp [Act.eval]) rfl s1.out s3.out (by omega) s2.out ?_)
                go_wp2
                go_roundg ((mi - 1) + (mj))
                case measure => omega
                case rel => exact ⟨i + 1, mi - 1, cpa - 1, jj, mj, cpb, c + 1, _, _, upd out c (fa i), by omega, by omega, by omega, by omega, by omega, by omega, rfl, rfl, rfl, fun _ => by rw [Nat.add_assoc], fun _ => rfl, HM', inv_end hI.out _ _⟩
            · by_cases h2 : fb jj < fa i
              · have HM' : Hid (Mrg U la lb fa fb i (jj + 1) (c + 1) (upd out c (fb jj))) := hM.out.takeB HAA.out HAB.out (by omega) (fun _ => h2)
                by_cases hcpb1 : cpb = 1
                · subst hcpb1
                  go_wp2
                  go_quiet (fail)
                  go_wp2_with fail
                  have hIz : Inv w s U V (.slice ada la ca) (.slice adb lb cb) (la + lb) c out (wr.drewN nq) := hI.out.drewN nq
                  have ca1z : (wr.drewN nq).cell? ⟨ba, oa + i, none⟩ = some (.int .u64 (fa i)) := ca1
                  have cb1z : (wr.drewN nq).cell? ⟨bb, ob + jj, none⟩ = some (.int .u64 (fb jj)) := cb1
                  clear hI ca1 cb1
                  generalize wr.drewN nq = wz at hIz ca1z cb1z ⊢
                  have hI : Hid (Inv w s U V (.slice ada la ca) (.slice adb lb cb) (la + lb) c out wz) := hIz
                  clear hIz
                  have ca1 := ca1z
                  clear ca1z
                  have cb1 := cb1z
                  clear cb1z
                  go_quiet (fail)
                  go_wp2_with fail
                  have hIz : Inv w s U V (.slice ada la ca) (.slice adb lb cb) (la + lb) c out (wz.drewN nq) := hI.out.drewN nq
                  have ca1z : (wz.drewN nq).cell? ⟨ba, oa + i, none⟩ = some (.int .u64 (fa i)) := ca1
                  have cb1z : (wz.drewN nq).cell? ⟨bb, ob + jj, none⟩ = some (.int .u64 (fb jj)) := cb1
                  clear hI ca1 cb1
                  generalize wz.drewN nq = wy at hIz ca1z cb1z ⊢
                  have hI : Hid (Inv w s U V (.slice ada la ca) (.slice adb lb cb) (la + lb) c out wy) := hIz
                  clear hIz
                  have ca1 := ca1z
                  clear ca1z
                  have cb1 := cb1z
                  clear cb1z
                  have s1 : Hid (∀ j u, [Value.int .u64 (fb jj)][j]? = some u → (wy.alloc (.cells #[.int .u64 (fb jj)] 41)).cell? ((⟨wy.heap.size, 0, none⟩ : Addr).add j) = some u) := news_one wy _ 41
                  have s2 : Hid (∀ j, j < [Value.int .u64 (fb jj)].length → ((wy.alloc (.cells #[.int .u64 (fb jj)] 41)).cell? ⟨w.heap.size + 1 + 1 + 1, 0 + c * 1 + j, none⟩).isSome = true ∧ (wy.alloc (.cells #[.int .u64 (fb jj)] 41)).frozen? ⟨w.heap.size + 1 + 1 + 1, 0 + c * 1 + j, none⟩ = false) := hI.out.spare (by omega) _ _
                  have s3 : Hid (∀ u ∈ [Value.int .u64 (fb jj)], u.oneCell' = true) := by intro u hu; simp at hu; subst hu; rfl
                  go_region_law (refine step_append_room rfl (.tmp 97) (.tmp 101) 23 rfl 41 i0 1 Try.underlying23 hi0 hz1 (w.heap.size + 1 + 1 + 1) 0 c (la + lb) (by simp [Act.eval]) ⟨wy.heap.size, 0, none⟩ 1 1 [.int .u64 (fb jj)] (by simp [Act.eval]) rfl s1.out s3.out (by omega) s2.out ?_)
                  go_wp2
                  go_roundg ((mi) + (0))
                  case measure => omega
                  case rel => exact ⟨i, mi, cpa, jj + 1, 0, 0, c + 1, _, _, upd out c (fb jj), by omega, by omega, by omega, by omega, by omega, by omega, rfl, rfl, rfl, fun _ => rfl, fun h => absurd h (by omega), HM', inv_end hI.out _ _⟩
                · skip
                  go_wp2
                  go_quiet (fail)
                  go_wp2_with fail
                  have hIz : Inv w s U V (.slice ada la ca) (.slice adb lb cb) (la + lb) c out (wr.drewN nq) := hI.out.drewN nq
                  have ca1z : (wr.drewN nq).cell? ⟨ba, oa + i, none⟩ = some (.int .u64 (fa i)) := ca1
                  have cb1z : (wr.drewN nq).cell? ⟨bb, ob + jj, none⟩ = some (.int .u64 (fb jj)) := cb1
                  clear hI ca1 cb1
                  generalize wr.drewN nq = wz at hIz ca1z cb1z ⊢
                  have hI : Hid (Inv w s U V (.slice ada la ca) (.slice adb lb cb) (la + lb) c out wz) := hIz
                  clear hIz
                  have ca1 := ca1z
                  clear ca1z
                  have cb1 := cb1z
                  clear cb1z
                  go_quiet (fail)
                  go_wp2_with fail
                  have hIz : Inv w s U V (.slice ada la ca) (.slice adb lb cb) (la + lb) c out (wz.drewN nq) := hI.out.drewN nq
                  have ca1z : (wz.drewN nq).cell? ⟨ba, oa + i, none⟩ = some (.int .u64 (fa i)) := ca1
                  have cb1z : (wz.drewN nq).cell? ⟨bb, ob + jj, none⟩ = some (.int .u64 (fb jj)) := cb1
                  clear hI ca1 cb1
                  generalize wz.drewN nq = wy at hIz ca1z cb1z ⊢
                  have hI : Hid (Inv w s U V (.slice ada la ca) (.slice adb lb cb) (la + lb) c out wy) := hIz
                  clear hIz
                  have ca1 := ca1z
                  clear ca1z
                  have cb1 := cb1z
                  clear cb1z
                  have s1 : Hid (∀ j u, [Value.int .u64 (fb jj)][j]? = some u → (wy.alloc (.cells #[.int .u64 (fb jj)] 41)).cell? ((⟨wy.heap.size, 0, none⟩ : Addr).add j) = some u) := news_one wy _ 41
                  have s2 : Hid (∀ j, j < [Value.int .u64 (fb jj)].length → ((wy.alloc (.cells #[.int .u64 (fb jj)] 41)).cell? ⟨w.heap.size + 1 + 1 + 1, 0 + c * 1 + j, none⟩).isSome = true ∧ (wy.alloc (.cells #[.int .u64 (fb jj)] 41)).frozen? ⟨w.heap.size + 1 + 1 + 1, 0 + c * 1 + j, none⟩ = false) := hI.out.spare (by omega) _ _
                  have s3 : Hid (∀ u ∈ [Value.int .u64 (fb jj)], u.oneCell' = true) := by intro u hu; simp at hu; subst hu; rfl
                  go_region_law (refine step_append_room rfl (.tmp 97) (.tmp 101) 23 rfl 41 i0 1 Try.underlying23 hi0 hz1 (w.heap.size + 1 + 1 + 1) 0 c (la + lb) (by simp [Act.eval]) ⟨wy.heap.size, 0, none⟩ 1 1 [.int .u64 (fb jj)] (by simp [Act.eval]) rfl s1.out s3.out (by omega) s2.out ?_)
                  go_wp2
                  go_roundg ((mi) + (mj - 1))
                  case measure => omega
                  case rel => exact ⟨i, mi, cpa, jj + 1, mj - 1, cpb - 1, c + 1, _, _, upd out c (fb jj), by omega, by omega, by omega, by omega, by omega, by omega, rfl, rfl, rfl, fun _ => rfl, fun _ => by rw [Nat.add_assoc], HM', inv_end hI.out _ _⟩
              · have HM' : Hid (Mrg U la lb fa fb (i + 1) (jj + 1) (c + 1) (upd out c (fa i))) := hM.out.takeAB HAA.out HAB.out (by omega) (by omega) (by omega)
                by_cases hcpa1 : cpa = 1
                · subst hcpa1
                  by_cases hcpb1 : cpb = 1
                  · subst hcpb1
                    go_wp2
                    go_quiet (fail)
                    go_wp2_with fail
                    have hIz : Inv w s U V (.slice ada la ca) (.slice adb lb cb) (la + lb) c out (wr.drewN nq) := hI.out.drewN nq
                    have ca1z : (wr.drewN nq).cell? ⟨ba, oa + i, none⟩ = some (.int .u64 (fa i)) := ca1
                    have cb1z : (wr.drewN nq).cell? ⟨bb, ob + jj, none⟩ = some (.int .u64 (fb jj)) := cb1
                    clear hI ca1 cb1
                    generalize wr.drewN nq = wz at hIz ca1z cb1z ⊢
                    have hI : Hid (Inv w s U V (.slice ada la ca) (.slice adb lb cb) (la + lb) c out wz) := hIz
                    clear hIz
                    have ca1 := ca1z
                    clear ca1z
                    have cb1 := cb1z
                    clear cb1z
                    go_quiet (fail)
                    go_wp2_with fail
                    have hIz : Inv w s U V (.slice ada la ca) (.slice adb lb cb) (la + lb) c out (wz.drewN nq) := hI.out.drewN nq
                    have ca1z : (wz.drewN nq).cell? ⟨ba, oa + i, none⟩ = some (.int .u64 (fa i)) := ca1
                    have cb1z : (wz.drewN nq).cell? ⟨bb, ob + jj, none⟩ = some (.int .u64 (fb jj)) := cb1
                    clear hI ca1 cb1
                    generalize wz.drewN nq = wy at hIz ca1z cb1z ⊢
                    have hI : Hid (Inv w s U V (.slice ada la ca) (.slice adb lb cb) (la + lb) c out wy) := hIz
                    clear hIz
                    have ca1 := ca1z
                    clear ca1z
                    have cb1 := cb1z
                    clear cb1z
                    have s1 : Hid (∀ j u, [Value.int .u64 (fa i)][j]? = some u → (wy.alloc (.cells #[.int .u64 (fa i)] 41)).cell? ((⟨wy.heap.size, 0, none⟩ : Addr).add j) = some u) := news_one wy _ 41
                    have s2 : Hid (∀ j, j < [Value.int .u64 (fa i)].length → ((wy.alloc (.cells #[.int .u64 (fa i)] 41)).cell? ⟨w.heap.size + 1 + 1 + 1, 0 + c * 1 + j, none⟩).isSome = true ∧ (wy.alloc (.cells #[.int .u64 (fa i)] 41)).frozen? ⟨w.heap.size + 1 + 1 + 1, 0 + c * 1 + j, none⟩ = false) := hI.out.spare (by omega) _ _
                    have s3 : Hid (∀ u ∈ [Value.int .u64 (fa i)], u.oneCell' = true) := by intro u hu; simp at hu; subst hu; rfl
                    go_region_law (refine step_append_room rfl (.tmp 48) (.tmp 52) 23 rfl 41 i0 1 Try.underlying23 hi0 hz1 (w.heap.size + 1 + 1 + 1) 0 c (la + lb) (by simp [Act.eval]) ⟨wy.heap.size, 0, none⟩ 1 1 [.int .u64 (fa i)] (by simp [Act.eval]) rfl s1.out s3.out (by omega) s2.out ?_)
                    go_wp2
                    go_roundg ((0) + (0))
                    case measure => omega
                    case rel => exact ⟨i + 1, 0, 0, jj + 1, 0, 0, c + 1, _, _, upd out c (fa i), by omega, by omega, by omega, by omega, by omega, by omega, rfl, rfl, rfl, fun h => absurd h (by omega), fun h => absurd h (by omega), HM', inv_end hI.out _ _⟩
                  · skip
                    go_wp2
                    go_quiet (fail)
                    go_wp2_with fail
                    have hIz : Inv w s U V (.slice ada la ca) (.slice adb lb cb) (la + lb) c out (wr.drewN nq) := hI.out.drewN nq
                    have ca1z : (wr.drewN nq).cell? ⟨ba, oa + i, none⟩ = some (.int .u64 (fa i)) := ca1
                    have cb1z : (wr.drewN nq).cell? ⟨bb, ob + jj, none⟩ = some (.int .u64 (fb jj)) := cb1
                    clear hI ca1 cb1
                    generalize wr.drewN nq = wz at hIz ca1z cb1z ⊢
                    have hI : Hid (Inv w s U V (.slice ada la ca) (.slice adb lb cb) (la + lb) c out wz) := hIz
                    clear hIz
                    have ca1 := ca1z
                    clear ca1z
                    have cb1 := cb1z
                    clear cb1z
                    go_quiet (fail)
                    go_wp2_with fail
                    have hIz : Inv w s U V (.slice ada la ca) (.slice adb lb cb) (la + lb) c out (wz.drewN nq) := hI.out.drewN nq
                    have ca1z : (wz.drewN nq).cell? ⟨ba, oa + i, none⟩ = some (.int .u64 (fa i)) := ca1
                    have cb1z : (wz.drewN nq).cell? ⟨bb, ob + jj, none⟩ = some (.int .u64 (fb jj)) := cb1
                    clear hI ca1 cb1
                    generalize wz.drewN nq = wy at hIz ca1z cb1z ⊢
                    have hI : Hid (Inv w s U V (.slice ada la ca) (.slice adb lb cb) (la + lb) c out wy) := hIz
                    clear hIz
                    have ca1 := ca1z
                    clear ca1z
                    have cb1 := cb1z
                    clear cb1z
                    have s1 : Hid (∀ j u, [Value.int .u64 (fa i)][j]? = some u → (wy.alloc (.cells #[.int .u64 (fa i)] 41)).cell? ((⟨wy.heap.size, 0, none⟩ : Addr).add j) = some u) := news_one wy _ 41
                    have s2 : Hid (∀ j, j < [Value.int .u64 (fa i)].length → ((wy.alloc (.cells #[.int .u64 (fa i)] 41)).cell? ⟨w.heap.size + 1 + 1 + 1, 0 + c * 1 + j, none⟩).isSome = true ∧ (wy.alloc (.cells #[.int .u64 (fa i)] 41)).frozen? ⟨w.heap.size + 1 + 1 + 1, 0 + c * 1 + j, none⟩ = false) := hI.out.spare (by omega) _ _
                    have s3 : Hid (∀ u ∈ [Value.int .u64 (fa i)], u.oneCell' = true) := by intro u hu; simp at hu; subst hu; rfl
                    go_region_law (refine step_append_room rfl (.tmp 48) (.tmp 52) 23 rfl 41 i0 1 Try.underlying23 hi0 hz1 (w.heap.size + 1 + 1 + 1) 0 c (la + lb) (by simp [Act.eval]) ⟨wy.heap.size, 0, none⟩ 1 1 [.int .u64 (fa i)] (by simp [Act.eval]) rfl s1.out s3.out (by omega) s2.out ?_)
                    go_wp2
                    go_roundg ((0) + (mj - 1))
                    case measure => omega
                    case rel => exact ⟨i + 1, 0, 0, jj + 1, mj - 1, cpb - 1, c + 1, _, _, upd out c (fa i), by omega, by omega, by omega, by omega, by omega, by omega, rfl, rfl, rfl, fun h => absurd h (by omega), fun _ => by rw [Nat.add_assoc], HM', inv_end hI.out _ _⟩
                · by_cases hcpb1 : cpb = 1
                  · subst hcpb1
                    go_wp2
                    go_quiet (fail)
                    go_wp2_with fail
                    have hIz : Inv w s U V (.slice ada la ca) (.slice adb lb cb) (la + lb) c out (wr.drewN nq) := hI.out.drewN nq
                    have ca1z : (wr.drewN nq).cell? ⟨ba, oa + i, none⟩ = some (.int .u64 (fa i)) := ca1
                    have cb1z : (wr.drewN nq).cell? ⟨bb, ob + jj, none⟩ = some (.int .u64 (fb jj)) := cb1
                    clear hI ca1 cb1
                    generalize wr.drewN nq = wz at hIz ca1z cb1z ⊢
                    have hI : Hid (Inv w s U V (.slice ada la ca) (.slice adb lb cb) (la + lb) c out wz) := hIz
                    clear hIz
                    have ca1 := ca1z
                    clear ca1z
                    have cb1 := cb1z
                    clear cb1z
                    go_quiet (fail)
                    go_wp2_with fail
                    have hIz : Inv w s U V (.slice ada la ca) (.slice adb lb cb) (la + lb) c out (wz.drewN nq) := hI.out.drewN nq
                    have ca1z : (wz.drewN nq).cell? ⟨ba, oa + i, none⟩ = some (.int .u64 (fa i)) := ca1
                    have cb1z : (wz.drewN nq).cell? ⟨bb, ob + jj, none⟩ = some (.int .u64 (fb jj)) := cb1
                    clear hI ca1 cb1
                    generalize wz.drewN nq = wy at hIz ca1z cb1z ⊢
                    have hI : Hid (Inv w s U V (.slice ada la ca) (.slice adb lb cb) (la + lb) c out wy) := hIz
                    clear hIz
                    have ca1 := ca1z
                    clear ca1z
                    have cb1 := cb1z
                    clear cb1z
                    have s1 : Hid (∀ j u, [Value.int .u64 (fa i)][j]? = some u → (wy.alloc (.cells #[.int .u64 (fa i)] 41)).cell? ((⟨wy.heap.size, 0, none⟩ : Addr).add j) = some u) := news_one wy _ 41
                    have s2 : Hid (∀ j, j < [Value.int .u64 (fa i)].length → ((wy.alloc (.cells #[.int .u64 (fa i)] 41)).cell? ⟨w.heap.size + 1 + 1 + 1, 0 + c * 1 + j, none⟩).isSome = true ∧ (wy.alloc (.cells #[.int .u64 (fa i)] 41)).frozen? ⟨w.heap.size + 1 + 1 + 1, 0 + c * 1 + j, none⟩ = false) := hI.out.spare (by omega) _ _
                    have s3 : Hid (∀ u ∈ [Value.int .u64 (fa i)], u.oneCell' = true) := by intro u hu; simp at hu; subst hu; rfl
                    go_region_law (refine step_append_room rfl (.tmp 48) (.tmp 52) 23 rfl 41 i0 1 Try.underlying23 hi0 hz1 (w.heap.size + 1 + 1 + 1) 0 c (la + lb) (by simp [Act.eval]) ⟨wy.heap.size, 0, none⟩ 1 1 [.int .u64 (fa i)] (by simp [Act.eval]) rfl s1.out s3.out (by omega) s2.out ?_)
                    go_wp2
                    go_roundg ((mi - 1) + (0))
                    case measure => omega
                    case rel => exact ⟨i + 1, mi - 1, cpa - 1, jj + 1, 0, 0, c + 1, _, _, upd out c (fa i), by omega, by omega, by omega, by omega, by omega, by omega, rfl, rfl, rfl, fun _ => by rw [Nat.add_assoc], fun h => absurd h (by omega), HM', inv_end hI.out _ _⟩
                  · skip
                    go_wp2
                    go_quiet (fail)
                    go_wp2_with fail
                    have hIz : Inv w s U V (.slice ada la ca) (.slice adb lb cb) (la + lb) c out (wr.drewN nq) := hI.out.drewN nq
                    have ca1z : (wr.drewN nq).cell? ⟨ba, oa + i, none⟩ = some (.int .u64 (fa i)) := ca1
                    have cb1z : (wr.drewN nq).cell? ⟨bb, ob + jj, none⟩ = some (.int .u64 (fb jj)) := cb1
                    clear hI ca1 cb1
                    generalize wr.drewN nq = wz at hIz ca1z cb1z ⊢
                    have hI : Hid (Inv w s U V (.slice ada la ca) (.slice adb lb cb) (la + lb) c out wz) := hIz
                    clear hIz
                    have ca1 := ca1z
                    clear ca1z
                    have cb1 := cb1z
                    clear cb1z
                    go_quiet (fail)
                    go_wp2_with fail
                    have hIz : Inv w s U V (.slice ada la ca) (.slice adb lb cb) (la + lb) c out (wz.drewN nq) := hI.out.drewN nq
                    have ca1z : (wz.drewN nq).cell? ⟨ba, oa + i, none⟩ = some (.int .u64 (fa i)) := ca1
                    have cb1z : (wz.drewN nq).cell? ⟨bb, ob + jj, none⟩ = some (.int .u64 (fb jj)) := cb1
                    clear hI ca1 cb1
                    generalize wz.drewN nq = wy at hIz ca1z cb1z ⊢
                    have hI : Hid (Inv w s U V (.slice ada la ca) (.slice adb lb cb) (la + lb) c out wy) := hIz
                    clear hIz
                    have ca1 := ca1z
                    clear ca1z
                    have cb1 := cb1z
                    clear cb1z
                    have s1 : Hid (∀ j u, [Value.int .u64 (fa i)][j]? = some u → (wy.alloc (.cells #[.int .u64 (fa i)] 41)).cell? ((⟨wy.heap.size, 0, none⟩ : Addr).add j) = some u) := news_one wy _ 41
                    have s2 : Hid (∀ j, j < [Value.int .u64 (fa i)].length → ((wy.alloc (.cells #[.int .u64 (fa i)] 41)).cell? ⟨w.heap.size + 1 + 1 + 1, 0 + c * 1 + j, none⟩).isSome = true ∧ (wy.alloc (.cells #[.int .u64 (fa i)] 41)).frozen? ⟨w.heap.size + 1 + 1 + 1, 0 + c * 1 + j, none⟩ = false) := hI.out.spare (by omega) _ _
                    have s3 : Hid (∀ u ∈ [Value.int .u64 (fa i)], u.oneCell' = true) := by intro u hu; simp at hu; subst hu; rfl
                    go_region_law (refine step_append_room rfl (.tmp 48) (.tmp 52) 23 rfl 41 i0 1 Try.underlying23 hi0 hz1 (w.heap.size + 1 + 1 + 1) 0 c (la + lb) (by simp [Act.eval]) ⟨wy.heap.size, 0, none⟩ 1 1 [.int .u64 (fa i)] (by simp [Act.eval]) rfl s1.out s3.out (by omega) s2.out ?_)
                    go_wp2
                    go_roundg ((mi - 1) + (mj - 1))
                    case measure => omega
                    case rel => exact ⟨i + 1, mi - 1, cpa - 1, jj + 1, mj - 1, cpb - 1, c + 1, _, _, upd out c (fa i), by omega, by omega, by omega, by omega, by omega, by omega, rfl, rfl, rfl, fun _ => by rw [Nat.add_assoc], fun _ => by rw [Nat.add_assoc], HM', inv_end hI.out _ _⟩
          · have ej : ((mj : Int) == 0) = true := beq_iff_eq.2 (by omega)
            have HM' : Hid (Mrg U la lb fa fb (i + 1) jj (c + 1) (upd out c (fa i))) := hM.out.takeA HAA.out HAB.out (by omega) (fun h => absurd h (by omega))
            by_cases hcpa1 : cpa = 1
            · subst hcpa1
              go_wp2
              go_quiet (fail)
              go_wp2_with fail
              have hIz : Inv w s U V (.slice ada la ca) (.slice adb lb cb) (la + lb) c out (wr.drewN nq) := hI.out.drewN nq
              have ca1z : (wr.drewN nq).cell? ⟨ba, oa + i, none⟩ = some (.int .u64 (fa i)) := ca1
              clear hI ca1
              generalize wr.drewN nq = wz at hIz ca1z ⊢
              have hI : Hid (Inv w s U V (.slice ada la ca) (.slice adb lb cb) (la + lb) c out wz) := hIz
              clear hIz
              have ca1 := ca1z
              clear ca1z
              have s1 : Hid (∀ j u, [Value.int .u64 (fa i)][j]? = some u → (wz.alloc (.cells #[.int .u64 (fa i)] 41)).cell? ((⟨wz.heap.size, 0, none⟩ : Addr).add j) = some u) := news_one wz _ 41
              have s2 : Hid (∀ j, j < [Value.int .u64 (fa i)].length → ((wz.alloc (.cells #[.int .u64 (fa i)] 41)).cell? ⟨w.heap.size + 1 + 1 + 1, 0 + c * 1 + j, none⟩).isSome = true ∧ (wz.alloc (.cells #[.int .u64 (fa i)] 41)).frozen? ⟨w.heap.size + 1 + 1 + 1, 0 + c * 1 + j, none⟩ = false) := hI.out.spare (by omega) _ _
              have s3 : Hid (∀ u ∈ [Value.int .u64 (fa i)], u.oneCell' = true) := by intro u hu; simp at hu; subst hu; rfl
              go_region_law (refine step_append_room rfl (.tmp 76) (.tmp 80) 23 rfl 41 i0 1 Try.underlying23 hi0 hz1 (w.heap.size + 1 + 1 + 1) 0 c (la + lb) (by simp [Act.eval]) ⟨wz.heap.size, 0, none⟩ 1 1 [.int .u64 (fa i)] (by simp [Act.eval]) rfl s1.out s3.out (by omega) s2.out ?_)
              go_wp2
              go_roundg ((0) + (mj))
              case measure => omega
              case rel => exact ⟨i + 1, 0, 0, jj, mj, cpb, c + 1, _, _, upd out c (fa i), by omega, by omega, by omega, by omega, by omega, by omega, rfl, rfl, rfl, fun h => absurd h (by omega), hbx, HM', inv_end hI.out _ _⟩
            · skip
              go_wp2
              go_quiet (fail)
              go_wp2_with fail
              have hIz : Inv w s U V (.slice ada la ca) (.slice adb lb cb) (la + lb) c out (wr.drewN nq) := hI.out.drewN nq
              have ca1z : (wr.drewN nq).cell? ⟨ba, oa + i, none⟩ = some (.int .u64 (fa i)) := ca1
              clear hI ca1
              generalize wr.drewN nq = wz at hIz ca1z ⊢
              have hI : Hid (Inv w s U V (.slice ada la ca) (.slice adb lb cb) (la + lb) c out wz) := hIz
              clear hIz
              have ca1 := ca1z
              clear ca1z
              have s1 : Hid (∀ j u, [Value.int .u64 (fa i)][j]? = some u → (wz.alloc (.cells #[.int .u64 (fa i)] 41)).cell? ((⟨wz.heap.size, 0, none⟩ : Addr).add j) = some u) := news_one wz _ 41
              have s2 : Hid (∀ j, j < [Value.int .u64 (fa i)].length → ((wz.alloc (.cells #[.int .u64 (fa i)] 41)).cell? ⟨w.heap.size + 1 + 1 + 1, 0 + c * 1 + j, none⟩).isSome = true ∧ (wz.alloc (.cells #[.int .u64 (fa i)] 41)).frozen? ⟨w.heap.size + 1 + 1 + 1, 0 + c * 1 + j, none⟩ = false) := hI.out.spare (by omega) _ _
              have s3 : Hid (∀ u ∈ [Value.int .u64 (fa i)], u.oneCell' = true) := by intro u hu; simp at hu; subst hu; rfl
              go_region_law (refine step_append_room rfl (.tmp 76) (.tmp 80) 23 rfl 41 i0 1 Try.underlying23 hi0 hz1 (w.heap.size + 1 + 1 + 1) 0 c (la + lb) (by simp [Act.eval]) ⟨wz.heap.size, 0, none⟩ 1 1 [.int .u64 (fa i)] (by simp [Act.eval]) rfl s1.out s3.out (by omega) s2.out ?_)
              go_wp2
              go_roundg ((mi - 1) + (mj))
              case measure => omega
              case rel => exact ⟨i + 1, mi - 1, cpa - 1, jj, mj, cpb, c + 1, _, _, upd out c (fa i), by omega, by omega, by omega, by omega, by omega, by omega, rfl, rfl, rfl, fun _ => by rw [Nat.add_assoc], hbx, HM', inv_end hI.out _ _⟩
        · by_cases hmj : 0 < mj
          · have eb := hbx hmj
            subst eb
            have cb1 : wr.cell? ⟨bb, ob + jj, none⟩ = some (.int .u64 (fb jj)) := (hI.out.bel.cell (by exact (HBB.out (by omega)).2)).trans (HCB.out jj (by omega))
            have hmjI : (0 : Int) < (mj : Int) := by omega
            have hmj1 : (1 : Int) ≤ (mj : Int) := by omega
            have ej : ((mj : Int) == 0) = false := beq_eq_false_iff_ne.2 (by omega)
            have ei : ((mi : Int) == 0) = true := beq_iff_eq.2 (by omega)
            have hmiD : decide (0 < mi) = false := by rw [decide_eq_false_iff_not]; omega
            have HM' : Hid (Mrg U la lb fa fb i (jj + 1) (c + 1) (upd out c (fb jj))) := hM.out.takeB HAA.out HAB.out (by omega) (fun h => absurd h (by omega))
            by_cases hcpb1 : cpb = 1
            · subst hcpb1
              go_wp2
              go_quiet (fail)
              go_wp2_with fail
              have hIz : Inv w s U V (.slice ada la ca) (.slice adb lb cb) (la + lb) c out (wr.drewN nq) := hI.out.drewN nq
              have cb1z : (wr.drewN nq).cell? ⟨bb, ob + jj, none⟩ = some (.int .u64 (fb jj)) := cb1
              clear hI cb1
              generalize wr.drewN nq = wz at hIz cb1z ⊢
              have hI : Hid (Inv w s U V (.slice ada la ca) (.slice adb lb cb) (la + lb) c out wz) := hIz
              clear hIz
              have cb1 := cb1z
              clear cb1z
              go_quiet (fail)
              go_wp2_with fail
              have hIz : Inv w s U V (.slice ada la ca) (.slice adb lb cb) (la + lb) c out (wz.drewN nq) := hI.out.drewN nq
              have cb1z : (wz.drewN nq).cell? ⟨bb, ob + jj, none⟩ = some (.int .u64 (fb jj)) := cb1
              clear hI cb1
              generalize wz.drewN nq = wy at hIz cb1z ⊢
              have hI : Hid (Inv w s U V (.slice ada la ca) (.slice adb lb cb) (la + lb) c out wy) := hIz
              clear hIz
              have cb1 := cb1z
              clear cb1z
              have s1 : Hid (∀ j u, [Value.int .u64 (fb jj)][j]? = some u → (wy.alloc (.cells #[.int .u64 (fb jj)] 41)).cell? ((⟨wy.heap.size, 0, none⟩ : Addr).add j) = some u) := news_one wy _ 41
              have s2 : Hid (∀ j, j < [Value.int .u64 (fb jj)].length → ((wy.alloc (.cells #[.int .u64 (fb jj)] 41)).cell? ⟨w.heap.size + 1 + 1 + 1, 0 + c * 1 + j, none⟩).isSome = true ∧ (wy.alloc (.cells #[.int .u64 (fb jj)] 41)).frozen? ⟨w.heap.size + 1 + 1 + 1, 0 + c * 1 + j, none⟩ = false) := hI.out.spare (by omega) _ _
              have s3 : Hid (∀ u ∈ [Value.int .u64 (fb jj)], u.oneCell' = true) := by intro u hu; simp at hu; subst hu; rfl
              go_region_law (refine step_append_room rfl (.tmp 97) (.tmp 101) 23 rfl 41 i0 1 Try.underlying23 hi0 hz1 (w.heap.size + 1 + 1 + 1) 0 c (la + lb) (by simp [Act.eval]) ⟨wy.heap.size, 0, none⟩ 1 1 [.int .u64 (fb jj)] (by simp [Act.eval]) rfl s1.out s3.out (by omega) s2.out ?_)
              go_wp2
              go_roundg ((mi) + (0))
              case measure => omega
              case rel => exact ⟨i, mi, cpa, jj + 1, 0, 0, c + 1, _, _, upd out c (fb jj), by omega, by omega, by omega, by omega, by omega, by omega, rfl, rfl, rfl, hax, fun h => absurd h (by omega), HM', inv_end hI.out _ _⟩
            · skip
              go_wp2
              go_quiet (fail)
              go_wp2_with fail
              have hIz : Inv w s U V (.slice ada la ca) (.slice adb lb cb) (la + lb) c out (wr.drewN nq) := hI.out.drewN nq
              have cb1z : (wr.drewN nq).cell? ⟨bb, ob + jj, none⟩ = some (.int .u64 (fb jj)) := cb1
              clear hI cb1
              generalize wr.drewN nq = wz at hIz cb1z ⊢
              have hI : Hid (Inv w s U V (.slice ada la ca) (.slice adb lb cb) (la + lb) c out wz) := hIz
              clear hIz
              have cb1 := cb1z
              clear cb1z
              go_quiet (fail)
              go_wp2_with fail
              have hIz : Inv w s U V (.slice ada la ca) (.slice adb lb cb) (la + lb) c out (wz.drewN nq) := hI.out.drewN nq
              have cb1z : (wz.drewN nq).cell? ⟨bb, ob + jj, none⟩ = some (.int .u64 (fb jj)) := cb1
              clear hI cb1
              generalize wz.drewN nq = wy at hIz cb1z ⊢
              have hI : Hid (Inv w s U V (.slice ada la ca) (.slice adb lb cb) (la + lb) c out wy) := hIz
              clear hIz
              have cb1 := cb1z
              clear cb1z
              have s1 : Hid (∀ j u, [Value.int .u64 (fb jj)][j]? = some u → (wy.alloc (.cells #[.int .u64 (fb jj)] 41)).cell? ((⟨wy.heap.size, 0, none⟩ : Addr).add j) = some u) := news_one wy _ 41
              have s2 : Hid (∀ j, j < [Value.int .u64 (fb jj)].length → ((wy.alloc (.cells #[.int .u64 (fb jj)] 41)).cell? ⟨w.heap.size + 1 + 1 + 1, 0 + c * 1 + j, none⟩).isSome = true ∧ (wy.alloc (.cells #[.int .u64 (fb jj)] 41)).frozen? ⟨w.heap.size + 1 + 1 + 1, 0 + c * 1 + j, none⟩ = false) := hI.out.spare (by omega) _ _
              have s3 : Hid (∀ u ∈ [Value.int .u64 (fb jj)], u.oneCell' = true) := by intro u hu; simp at hu; subst hu; rfl
              go_region_law (refine step_append_room rfl (.tmp 97) (.tmp 101) 23 rfl 41 i0 1 Try.underlying23 hi0 hz1 (w.heap.size + 1 + 1 + 1) 0 c (la + lb) (by simp [Act.eval]) ⟨wy.heap.size, 0, none⟩ 1 1 [.int .u64 (fb jj)] (by simp [Act.eval]) rfl s1.out s3.out (by omega) s2.out ?_)
              go_wp2
              go_roundg ((mi) + (mj - 1))
              case measure => omega
              case rel => exact ⟨i, mi, cpa, jj + 1, mj - 1, cpb - 1, c + 1, _, _, upd out c (fb jj), by omega, by omega, by omega, by omega, by omega, by omega, rfl, rfl, rfl, hax, fun _ => by rw [Nat.add_assoc], HM', inv_end hI.out _ _⟩
          · have d1 : ¬ (0 : Int) < (mi : Int) := by omega
            have d2 : ¬ (0 : Int) < (mj : Int) := by omega
            have k2 := hI.out.r0.frozen 2
            have r2 : wr.cell? ⟨w.heap.size, 2, none⟩ = some (.slice ada la ca) := hI.out.r0.cell (i := 2) (by omega)
            have eI : i = la := by omega
            have eJ : jj = lb := by omega
            have hML : Hid (Mrg U la lb fa fb la lb c out) := by have h9 := hM.out; rw [eI, eJ] at h9; exact h9
            clear eI eJ
            go_wp2_with fail
            refine (absorb_inv hI.out hML.out hU hV.1 (by omega) hza.out hzb.out hva.out hvb.out (by omega) (by omega)).mono ?_
            rintro e w1 ⟨rfl, U', L', f', ad', cp', hD⟩
            have HD : Hid (Done w s U V la lb fa fb U' L' f' ad' cp' w1) := hD
            have q0 : w1.cell? ⟨w.heap.size, 0, none⟩ = some (.string s) := hD.r0.cell (i := 0) (by omega)
            have q1 : w1.cell? ⟨w.heap.size, 1, none⟩ = some (.int .u64 U') := hD.r0.cell (i := 1) (by omega)
            have q2 : w1.cell? ⟨w.heap.size, 2, none⟩ = some (.slice ad' L' cp') := hD.r0.cell (i := 2) (by omega)
            have p0 : w1.cell? ⟨w.heap.size + 1 + 1, 0, none⟩ = some (.string ⟨#[]⟩) := hD.r2.cell (i := 0) (by omega)
            have p1 : w1.cell? ⟨w.heap.size + 1 + 1, 1, none⟩ = some (.int .u64 0) := hD.r2.cell (i := 1) (by omega)
            have p2 : w1.cell? ⟨w.heap.size + 1 + 1, 2, none⟩ = some (.slice none 0 0) := hD.r2.cell (i := 2) (by omega)
            have f0 := hD.r2.frozen 0
            have f1 := hD.r2.frozen 1
            have f2 := hD.r2.frozen 2
            have hsz : w.heap.size + 1 + 1 < w1.heap.size := by have := hD.size; omega
            clear hD hI k2 r2
            go_wp2
            obtain ⟨x0, x1, x2⟩ := fin_cells HD.out.r2 (.string s) (.int .u64 U') (.slice ad' L' cp')
            exact bodyPost_ret (v := .agg #[.string s, .int .u64 U', .slice ad' L' cp']) (by simp [results, Try.results32, go_sem, x0, x1, x2]) rfl (done_post HD.out ((((Only.refl _ _).setCell 0 _).setCell 1 _).setCell 2 _))
end Go.Proofs.Qxb6620807a.Wk
