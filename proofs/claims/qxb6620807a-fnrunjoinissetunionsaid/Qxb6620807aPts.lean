/-
  The walk of zzRunPoints: it appends counters to a slice of the caller's own; WHICH counters does not matter to the law.
-/
import Derived.Test.Qxb6620807aCopy
namespace Go.Proofs.Qxb6620807a.Wk
open Go.RowKit
set_option linter.unusedVariables false

/-- every cell is a counter -/
def Els (xs : List Value) : Prop := ∀ u ∈ xs, ∃ y : Int, u = .int .u64 y
theorem Els.snoc {xs ys : List Value} (h : Els xs) (k : Els ys) : Els (xs ++ ys) := by
  intro u hu
  rcases List.mem_append.1 hu with h1 | h1
  · exact h u h1
  · exact k u h1
theorem els_one (y : Int) : Els [.int .u64 y] := fun u hu => ⟨y, by simpa using hu⟩
theorem els_two (x y : Int) : Els [.int .u64 x, .int .u64 y] := fun u hu => by
  simp at hu
  rcases hu with h | h
  · exact ⟨x, h⟩
  · exact ⟨y, h⟩

theorem own_step {w w1 : World} {base : Nat} {v : Value} {n : Nat} {xs : List Value} (hown : w.ownsRow base 41 1 v n xs) (hbase : base ≤ w.heap.size) (o : Obj) (hg : (w.alloc o).grownBy w1 v.ownBlock) :
    Below base w w1 ∧ base ≤ w1.heap.size := by
  have hb : Below base w w1 := ((Below.refl base w).alloc hbase o).grown hg (by simp; omega) (fun k hk => (hown.lt k hk).1)
  exact ⟨hb, Nat.le_trans hbase hb.size⟩

theorem news_one (w : World) (y : Value) (t : TypeId) : ∀ j u, [y][j]? = some u → (w.alloc (.cells #[y] t)).cell? ((⟨w.heap.size, 0, none⟩ : Addr).add j) = some u := by
  intro j u hj
  match j, hj with
  | 0, hj => simp at hj; subst hj; simp [Addr.add]
theorem news_two (w : World) (x y : Value) (t : TypeId) : ∀ j u, [x, y][j]? = some u → (w.alloc (.cells #[x, y] t)).cell? ((⟨w.heap.size, 0, none⟩ : Addr).add j) = some u := by
  intro j u hj
  match j, hj with
  | 0, hj => simp at hj; subst hj; simp [Addr.add]
  | 1, hj => simp at hj; subst hj; simp [Addr.add]

set_option maxHeartbeats 4000000 in
theorem runPoints (base : Nat) (v : Value) (n : Nat) (xs : List Value) (up : Int) (ad : Option Addr) (L cap : Nat) (f : Nat → Int) (hup : 0 ≤ up ∧ up ≤ 18446744073709551615) (hz : Hid (U64 f)) (hL : L ≤ 1048576) (hn : n ≤ 10000000) (w : World)
    (hR : Hid (Rd w base ad L f)) (hown : w.ownsRow base 41 1 v n xs) (hel : Hid (Els xs)) (hbase : base ≤ w.heap.size) :
    Calls Try.prog 27 #[v, .int .u64 up, .slice ad L cap] w fun e w' => ∃ v' n' xs', e = .returned v' ∧ w'.ownsRow base 41 1 v' n' xs' ∧ Els xs' ∧ n' ≤ n + 3 + 2 * L ∧ Below base w w' := by
  obtain ⟨i0, hi, hz0, hz1, hz2⟩ := info_parts Try.info41
  go_enter Try.func27, Try.ntmps27
  go_wp2_with (at_builtin; refine wpList_append_own _ rfl (.tmp 9) (.tmp 11) 23 rfl base 41 i0 (.int .u64 0) 1 8 Try.underlying23 hi hz0 hz1 hz2 rfl (by decide) _ _ _ rfl (hown.alloc _) ⟨w.heap.size, 0, none⟩ 2 2 [.int .u64 1, .int .u64 up] rfl rfl ?c1 ?c2 ?c3 ?c4 ?c5 ?_)
  case c1 => exact news_two w _ _ _
  case c2 => intro u hu; simp at hu; rcases hu with rfl | rfl <;> rfl
  case c3 => unfold maxLen; omega
  case c4 => omega
  case c5 => simp; omega
  intro v1 w1 hown1 hgrow1 _
  have hst1 := own_step hown hbase _ hgrow1
  obtain ⟨X1, HO1, HE1⟩ : ∃ X, Hid (w1.ownsRow base 41 1 v1 (n + 2) X) ∧ Hid (Els X) := ⟨_, hown1, hel.out.snoc (els_two _ _)⟩
  have HB1 : Hid (Below base w w1) := hst1.1
  have HBZ1 : base ≤ w1.heap.size := hst1.2
  clear hown1 hgrow1 hst1 hown hel
  by_cases hm : up < 18446744073709551615
  · go_wp2_with (at_builtin; refine wpList_append_own _ rfl (.tmp 15) (.tmp 18) 23 rfl base 41 i0 (.int .u64 0) 1 8 Try.underlying23 hi hz0 hz1 hz2 rfl (by decide) _ _ _ rfl (HO1.out.alloc _) ⟨w1.heap.size, 0, none⟩ 1 1 [.int .u64 (up + 1)] rfl rfl ?c1a ?c2a ?c3a ?c4a ?c5a ?_)
    case c1a => exact news_one w1 _ _
    case c2a => intro u hu; simp at hu; subst hu; rfl
    case c3a => unfold maxLen; omega
    case c4a => omega
    case c5a => simp; omega
    intro v2 w2 hown' hgrow' _
    have hst' := own_step HO1.out HBZ1 _ hgrow'
    obtain ⟨X2, HO2, HE2⟩ : ∃ X, Hid (w2.ownsRow base 41 1 v2 (n + 2 + 1) X) ∧ Hid (Els X) := ⟨_, hown', by first | exact HE1.out.snoc (els_one _) | (rw [← List.append_assoc]; exact HE1.out.snoc (els_one _))⟩
    have HB2 : Hid (Below base w w2) := HB1.out.trans hst'.1
    have HBZ2 : base ≤ w2.heap.size := hst'.2
    clear hown' hgrow' hst'
    clear HO1 HE1 HB1 HBZ1
    by_cases h0 : L = 0
    · subst h0
      go_wp2
      refine wp_loop_rounds 1 ?_
      rw [rounds_succ]
      go_wp2
      go_ret
      exact ⟨v2, _, _, rfl, HO2.out, HE2.out, by omega, HB2.out⟩
    · have hlen : 0 < L := by omega
      clear h0
      obtain ⟨b, o, rfl, hbB, hc'⟩ := hR.out hlen
      have hc : Hid (∀ i, i < L → w.cell? ⟨b, o + i, none⟩ = some (.int .u64 (f i))) := hc'
      clear hc'
      go_wp2
      go_loopw [0, 7] (fun x i wr => ∃ (k n' : Nat) (xs' : List Value), k ≤ L ∧ i = .int .i64 k ∧ Hid (wr.ownsRow base 41 1 x n' xs') ∧ Hid (Els xs') ∧ n' ≤ n + 3 + 2 * k ∧ Hid (Below base w wr) ∧ base ≤ wr.heap.size) (fun _ i _ => L - (intOf i).toNat)
      case atStart => exact ⟨0, _, _, Nat.zero_le _, rfl, HO2, HE2, by omega, HB2, HBZ2⟩
      case round =>
        clear HO2 HE2 HB2 HBZ2
        obtain ⟨k, n', xs', hk, rfl, HO, HE, hn', HB, hBZ⟩ := hrel
        by_cases hlt : k < L
        · have hltI : (k : Int) < (L : Int) := by omega
          have c1 : wr.cell? ⟨b, o + k, none⟩ = some (.int .u64 (f k)) := (HB.out.cell (by exact hbB)).trans (hc.out k hlt)
          have z1 := hz.out k
          go_wp2_with (at_builtin; refine wpList_append_own _ rfl (.tmp 30) (.tmp 32) 23 rfl base 41 i0 (.int .u64 0) 1 8 Try.underlying23 hi hz0 hz1 hz2 rfl (by decide) _ _ _ rfl (HO.out.alloc _) ⟨wr.heap.size, 0, none⟩ 1 1 [.int .u64 (f k)] rfl rfl ?c1px ?c2px ?c3px ?c4px ?c5px ?_)
          case c1px => exact news_one wr _ _
          case c2px => intro u hu; simp at hu; subst hu; rfl
          case c3px => unfold maxLen; omega
          case c4px => omega
          case c5px => simp; omega
          intro v3 w3 hown' hgrow' _
          have hst' := own_step HO.out hBZ _ hgrow'
          obtain ⟨X3, HO3, HE3⟩ : ∃ X, Hid (w3.ownsRow base 41 1 v3 (n' + 1) X) ∧ Hid (Els X) := ⟨_, hown', by first | exact HE.out.snoc (els_one _) | (rw [← List.append_assoc]; exact HE.out.snoc (els_one _))⟩
          have HB3 : Hid (Below base w w3) := HB.out.trans hst'.1
          have HBZ3 : base ≤ w3.heap.size := hst'.2
          clear hown' hgrow' hst'
          clear c1 HO HE HB hBZ
          by_cases hm : f k < 18446744073709551615
          · go_wp2_with (at_builtin; refine wpList_append_own _ rfl (.tmp 36) (.tmp 39) 23 rfl base 41 i0 (.int .u64 0) 1 8 Try.underlying23 hi hz0 hz1 hz2 rfl (by decide) _ _ _ rfl (HO3.out.alloc _) ⟨w3.heap.size, 0, none⟩ 1 1 [.int .u64 (f k + 1)] rfl rfl ?c1py ?c2py ?c3py ?c4py ?c5py ?_)
            case c1py => exact news_one w3 _ _
            case c2py => intro u hu; simp at hu; subst hu; rfl
            case c3py => unfold maxLen; omega
            case c4py => omega
            case c5py => simp; omega
            intro v4 w4 hown' hgrow' _
            have hst' := own_step HO3.out HBZ3 _ hgrow'
            obtain ⟨X4, HO4, HE4⟩ : ∃ X, Hid (w4.ownsRow base 41 1 v4 (n' + 1 + 1) X) ∧ Hid (Els X) := ⟨_, hown', by first | exact HE3.out.snoc (els_one _) | (rw [← List.append_assoc]; exact HE3.out.snoc (els_one _))⟩
            have HB4 : Hid (Below base w w4) := HB3.out.trans hst'.1
            have HBZ4 : base ≤ w4.heap.size := hst'.2
            clear hown' hgrow' hst'
            clear HO3 HE3 HB3 HBZ3
            go_wp2
            go_roundw
            case rel => first | exact ⟨k + 1, _, _, by omega, by go_num, HO4, HE4, by omega, HB4, HBZ4⟩ | ((repeat apply Exists.intro); exact ⟨⟨k + 1, _, _, by omega, by go_num, HO4, HE4, by omega, HB4, HBZ4⟩, rfl⟩)
            case measure => simp [intOf]; omega
          · go_wp2
            go_roundw
            case rel => first | exact ⟨k + 1, _, _, by omega, by go_num, HO3, HE3, by omega, HB3, HBZ3⟩ | ((repeat apply Exists.intro); exact ⟨⟨k + 1, _, _, by omega, by go_num, HO3, HE3, by omega, HB3, HBZ3⟩, rfl⟩)
            case measure => simp [intOf]; omega
        · go_wp2
          go_ret
          exact ⟨_, n', xs', rfl, HO.out, HE.out, by omega, HB.out⟩
  · by_cases h0 : L = 0
    · subst h0
      go_wp2
      refine wp_loop_rounds 1 ?_
      rw [rounds_succ]
      go_wp2
      go_ret
      exact ⟨v1, _, _, rfl, HO1.out, HE1.out, by omega, HB1.out⟩
    · have hlen : 0 < L := by omega
      clear h0
      obtain ⟨b, o, rfl, hbB, hc'⟩ := hR.out hlen
      have hc : Hid (∀ i, i < L → w.cell? ⟨b, o + i, none⟩ = some (.int .u64 (f i))) := hc'
      clear hc'
      go_wp2
      go_loopw [0, 7] (fun x i wr => ∃ (k n' : Nat) (xs' : List Value), k ≤ L ∧ i = .int .i64 k ∧ Hid (wr.ownsRow base 41 1 x n' xs') ∧ Hid (Els xs') ∧ n' ≤ n + 3 + 2 * k ∧ Hid (Below base w wr) ∧ base ≤ wr.heap.size) (fun _ i _ => L - (intOf i).toNat)
      case atStart => exact ⟨0, _, _, Nat.zero_le _, rfl, HO1, HE1, by omega, HB1, HBZ1⟩
      case round =>
        clear HO1 HE1 HB1 HBZ1
        obtain ⟨k, n', xs', hk, rfl, HO, HE, hn', HB, hBZ⟩ := hrel
        by_cases hlt : k < L
        · have hltI : (k : Int) < (L : Int) := by omega
          have c1 : wr.cell? ⟨b, o + k, none⟩ = some (.int .u64 (f k)) := (HB.out.cell (by exact hbB)).trans (hc.out k hlt)
          have z1 := hz.out k
          go_wp2_with (at_builtin; refine wpList_append_own _ rfl (.tmp 30) (.tmp 32) 23 rfl base 41 i0 (.int .u64 0) 1 8 Try.underlying23 hi hz0 hz1 hz2 rfl (by decide) _ _ _ rfl (HO.out.alloc _) ⟨wr.heap.size, 0, none⟩ 1 1 [.int .u64 (f k)] rfl rfl ?c1qx ?c2qx ?c3qx ?c4qx ?c5qx ?_)
          case c1qx => exact news_one wr _ _
          case c2qx => intro u hu; simp at hu; subst hu; rfl
          case c3qx => unfold maxLen; omega
          case c4qx => omega
          case c5qx => simp; omega
          intro v3 w3 hown' hgrow' _
          have hst' := own_step HO.out hBZ _ hgrow'
          obtain ⟨X3, HO3, HE3⟩ : ∃ X, Hid (w3.ownsRow base 41 1 v3 (n' + 1) X) ∧ Hid (Els X) := ⟨_, hown', by first | exact HE.out.snoc (els_one _) | (rw [← List.append_assoc]; exact HE.out.snoc (els_one _))⟩
          have HB3 : Hid (Below base w w3) := HB.out.trans hst'.1
          have HBZ3 : base ≤ w3.heap.size := hst'.2
          clear hown' hgrow' hst'
          clear c1 HO HE HB hBZ
          by_cases hm : f k < 18446744073709551615
          · go_wp2_with (at_builtin; refine wpList_append_own _ rfl (.tmp 36) (.tmp 39) 23 rfl base 41 i0 (.int .u64 0) 1 8 Try.underlying23 hi hz0 hz1 hz2 rfl (by decide) _ _ _ rfl (HO3.out.alloc _) ⟨w3.heap.size, 0, none⟩ 1 1 [.int .u64 (f k + 1)] rfl rfl ?c1qy ?c2qy ?c3qy ?c4qy ?c5qy ?_)
            case c1qy => exact news_one w3 _ _
            case c2qy => intro u hu; simp at hu; subst hu; rfl
            case c3qy => unfold maxLen; omega
            case c4qy => omega
            case c5qy => simp; omega
            intro v4 w4 hown' hgrow' _
            have hst' := own_step HO3.out HBZ3 _ hgrow'
            obtain ⟨X4, HO4, HE4⟩ : ∃ X, Hid (w4.ownsRow base 41 1 v4 (n' + 1 + 1) X) ∧ Hid (Els X) := ⟨_, hown', by first | exact HE3.out.snoc (els_one _) | (rw [← List.append_assoc]; exact HE3.out.snoc (els_one _))⟩
            have HB4 : Hid (Below base w w4) := HB3.out.trans hst'.1
            have HBZ4 : base ≤ w4.heap.size := hst'.2
            clear hown' hgrow' hst'
            clear HO3 HE3 HB3 HBZ3
            go_wp2
            go_roundw
            case rel => first | exact ⟨k + 1, _, _, by omega, by go_num, HO4, HE4, by omega, HB4, HBZ4⟩ | ((repeat apply Exists.intro); exact ⟨⟨k + 1, _, _, by omega, by go_num, HO4, HE4, by omega, HB4, HBZ4⟩, rfl⟩)
            case measure => simp [intOf]; omega
          · go_wp2
            go_roundw
            case rel => first | exact ⟨k + 1, _, _, by omega, by go_num, HO3, HE3, by omega, HB3, HBZ3⟩ | ((repeat apply Exists.intro); exact ⟨⟨k + 1, _, _, by omega, by go_num, HO3, HE3, by omega, HB3, HBZ3⟩, rfl⟩)
            case measure => simp [intOf]; omega
        · go_wp2
          go_ret
          exact ⟨_, n', xs', rfl, HO.out, HE.out, by omega, HB.out⟩
end Go.Proofs.Qxb6620807a.Wk
