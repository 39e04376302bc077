/-
  The walk of modelParse.
-/
import Derived.Test.Qxb6619284aHas
import Derived.Deep.OwnRows
import Derived.Deep.LoopGhost
namespace Go.Proofs.Qxb6619284a.Md
open Go.RowKit
open Pl Wk Hs
set_option linter.unusedVariables false

theorem Try.info4 : (Try.prog.info? 4).map (fun i => (i.zero, i.size, i.bytes)) = some (some (.bool false), 1, 1) := by kernel_rfl

/-- 'from here on all digits' at each place from j on; false ahead of j. -/
def sufF (s : ByteArray) (j t : Nat) : Value := .bool (decide (j ≤ t) && allD (s.data.toList.drop t))

theorem make_suf (n : Nat) (h : n ≤ 1048576) (w : World) :
    (Instr.makeSlice 34 (.int .i64 ((n : Int) + 1)) (.int .i64 ((n : Int) + 1))).run Try.prog w = .ok (.slice (some ⟨w.heap.size, 0, none⟩) (n + 1) (n + 1)) (w.alloc (.cells (madeCells #[.bool false] (n + 1)) 4)) := by
  have h1 := run_make_row' (P := Try.prog) 34 4 (.bool false) 1 Try.underlying34 Try.info4 rfl .i64 .i64 (n + 1) (by omega) (by omega) w
  have ec : ((n + 1 : Nat) : Int) = (n : Int) + 1 := by omega
  rw [ec] at h1
  exact h1

theorem sufF_at (s : ByteArray) (j : Nat) : sufF s j j = .bool (allD (s.data.toList.drop j)) := by unfold sufF; simp
theorem sufF_lt (s : ByteArray) (j t : Nat) (h : t < j) : sufF s j t = .bool false := by unfold sufF; rw [decide_eq_false (by omega)]; rfl
theorem sufF_zero (s : ByteArray) (t : Nat) : sufF s 0 t = .bool (allD (s.data.toList.drop t)) := by unfold sufF; simp
theorem ex_val (b : Bool) : ∃ d, Hid (b = d) := ⟨b, rfl⟩
theorem made_at (n : Nat) : (madeCells #[.bool false] (n + 1))[n]? = some (.bool false) := by
  simp [madeCells, Nat.mod_one]

theorem row_start (s : ByteArray) (w : World) :
    (w.alloc (.cells ((madeCells #[.bool false] (s.size + 1)).setIfInBounds s.size (.bool true)) 4)).rowIs w.heap.size 4 (s.size + 1) (sufF s s.size) := by
  have h := World.rowIs_alloc w ((madeCells #[.bool false] (s.size + 1)).setIfInBounds s.size (.bool true)) 4 (sufF s s.size) (by
    intro i hi
    simp only [Array.size_setIfInBounds, size_madeCells] at hi
    rw [Array.getElem?_setIfInBounds, size_madeCells]
    unfold sufF
    by_cases e : s.size = i
    · subst e
      rw [if_pos rfl, if_pos (by omega), List.drop_of_length_le (by simp)]
      simp [allD]
    · rw [if_neg e]
      have : ¬ s.size ≤ i := by omega
      simp [madeCells, hi, Nat.mod_one, this])
  rw [Array.size_setIfInBounds, size_madeCells] at h
  exact h

theorem drop_cons (s : ByteArray) (j : Nat) (h : j < s.size) : s.data.toList.drop j = s[j] :: s.data.toList.drop (j + 1) := by
  rw [List.drop_eq_getElem_cons (by simpa using h)]; rfl

theorem row_step (s : ByteArray) (j b : Nat) (wr : World) (v : Bool) (h : j < s.size) (hrow : wr.rowIs b 4 (s.size + 1) (sufF s (j + 1)))
    (hv : v = (allD (s.data.toList.drop (j + 1)) && digB ((s[j].toNat : Nat) : Int))) : (wr.setCell ⟨b, j, none⟩ (.bool v)).rowIs b 4 (s.size + 1) (sufF s j) := by
  refine (hrow.set j (.bool v)).congr ?_
  intro t ht
  by_cases e : t = j
  · subst e
    rw [if_pos rfl]
    unfold sufF
    rw [drop_cons s t h, hv]
    simp [allD, dC, Bool.and_comm]
  · rw [if_neg e]
    unfold sufF
    by_cases h1 : j + 1 ≤ t
    · have h2 : j ≤ t := by omega
      simp [h1, h2]
    · have h2 : ¬ j ≤ t := by omega
      simp [h1, h2]

/-- "beta", "alpha" -/
abbrev bP : ByteArray := ⟨#[98, 101, 116, 97]⟩
abbrev aP : ByteArray := ⟨#[97, 108, 112, 104, 97]⟩
/-- refused: the zero parts -/
def Z (T : Int) (M m : ByteArray) (ok : Bool) : Prop := 0 = T ∧ ⟨#[]⟩ = M ∧ ⟨#[]⟩ = m ∧ false = ok
/-- accepted with the word P of L bytes as track t at K -/
def Acc (s P : ByteArray) (L K : Nat) : Prop := hasL s P K = true ∧ K + L < s.size ∧ allD (s.data.toList.drop (K + L)) = true
/-- what becomes of the name at the split point K -/
def Out (s : ByteArray) (K : Nat) (T : Int) (M m : ByteArray) (ok : Bool) : Prop :=
  (K = s.size ∧ 2 = T ∧ s.extract 1 s.size = M ∧ ⟨#[]⟩ = m ∧ true = ok) ∨
  (K < s.size ∧ Acc s bP 4 K ∧ 1 = T ∧ s.extract 1 K = M ∧ s.extract (K + 4) s.size = m ∧ true = ok) ∨
  (K < s.size ∧ ¬ Acc s bP 4 K ∧ Acc s aP 5 K ∧ 0 = T ∧ s.extract 1 K = M ∧ s.extract (K + 5) s.size = m ∧ true = ok) ∨
  (K < s.size ∧ ¬ Acc s bP 4 K ∧ ¬ Acc s aP 5 K ∧ Z T M m ok)
theorem not_acc {s P : ByteArray} {L K : Nat} (h : ¬ Acc s P L K) :
    hasL s P K = false ∨ (hasL s P K = true ∧ s.size ≤ K + L) ∨ (hasL s P K = true ∧ K + L < s.size ∧ allD (s.data.toList.drop (K + L)) = false) := by
  unfold Acc at h
  cases h1 : hasL s P K
  · exact .inl rfl
  · by_cases h2 : K + L < s.size
    · cases h3 : allD (s.data.toList.drop (K + L))
      · exact .inr (.inr ⟨rfl, h2, rfl⟩)
      · exact absurd ⟨h1, h2, h3⟩ h
    · exact .inr (.inl ⟨rfl, by omega⟩)
theorem ret4 {T T' : Int} {M M' m m' : ByteArray} {ok ok' : Bool} (h1 : T = T') (h2 : M = M') (h3 : m = m') (h4 : ok = ok') :
    Ending.returned (.tuple #[.int .i64 T, .string M, .string m, .bool ok]) = .returned (.tuple #[.int .i64 T', .string M', .string m', .bool ok']) := by rw [h1, h2, h3, h4]
theorem below_drewN' {B : Nat} {a w : World} (h : Below B a w) (n : Nat) : Below B a (w.drewN n) := ⟨h.os, h.tape, h.output, h.size, h.block⟩

set_option maxRecDepth 100000 in
set_option maxHeartbeats 4000000 in
theorem model (s : ByteArray) (hs : s.size ≤ 1048576) (h2 : 2 ≤ s.size) (h0 : (((s[0].toNat : Nat) : Int) != 118) = false)
    (K : Nat) (T : Int) (M m : ByteArray) (ok : Bool) (hK1 : 1 ≤ K) (hKn : K ≤ s.size)
    (hd : Hid (∀ k, 1 ≤ k → k < K → ∀ h : k < s.size, digB ((s[k].toNat : Nat) : Int) = true)) (hx : Hid (∀ h : K < s.size, digB ((s[K].toNat : Nat) : Int) = false))
    (hh : Hid (∀ k, 2 ≤ k → k < K → hasL s bP k = false ∧ hasL s aP k = false)) (hz : Hid (K = 1 → Z T M m ok)) (hout : Hid (2 ≤ K → Out s K T M m ok)) (w : World) :
    Calls Try.prog 11 #[.string s] w fun e w' => e = .returned (.tuple #[.int .i64 T, .string M, .string m, .bool ok]) ∧ Below w.heap.size w w' := by
  have hmk := make_suf s.size hs
  have hat := made_at s.size
  have hd2 : decide ((s.size : Int) < 2) = false := by rw [decide_eq_false_iff_not]; omega
  have hrs : Hid _ := row_start s w
  go_enter Try.func11, Try.ntmps11
  go_wp2
  go_loopw [9] (fun i wr => ∃ j : Nat, j ≤ s.size ∧ i = .int .i64 ((j : Int) - 1) ∧ wr.rowIs w.heap.size 4 (s.size + 1) (sufF s j) ∧ Below w.heap.size w wr) (fun i _ => (intOf i + 1).toNat)
  case atStart => exact ⟨s.size, Nat.le_refl _, rfl, hrs.out, (Below.refl _ _).alloc (Nat.le_refl _) _⟩
  case round =>
    clear hmk hat hrs
    obtain ⟨j, hj, rfl, hrow, hbel⟩ := hrel
    cases j with
    | zero =>
      have HROW : Hid (wr.rowIs w.heap.size 4 (s.size + 1) (sufF s 0)) := hrow
      clear hrow
      go_wp2
      go_loopw [10] (fun i wq => ∃ k : Nat, 1 ≤ k ∧ k ≤ K ∧ i = .int .i64 ((k : Int) + 1) ∧ Hid (k = K → Z T M m ok) ∧ wq.rowIs w.heap.size 4 (s.size + 1) (sufF s 0) ∧ Below w.heap.size w wq) (fun i _ => (K + 1 - (intOf i).toNat))
      case atStart => exact ⟨1, Nat.le_refl _, hK1, rfl, fun h => hz.out h.symm, HROW.out, hbel⟩
      case round =>
        clear HROW hbel hz
        obtain ⟨k, hk1, hkK, rfl, hkz, hrow, hbel⟩ := hrel
        by_cases hlast : k = K
        · obtain ⟨z1, z2, z3, z4⟩ := hkz.out hlast
          have F : Hid (∀ w', Below w.heap.size w w' → Ending.returned (.tuple #[.int .i64 0, .string ⟨#[]⟩, .string ⟨#[]⟩, .bool false]) = .returned (.tuple #[.int .i64 T, .string M, .string m, .bool ok]) ∧ Below w.heap.size w w') :=
            fun w' h => ⟨ret4 z1 z2 z3 z4, h⟩
          clear z1 z2 z3 z4
          by_cases hin : k < s.size
          · have hdig : Hid (digB ((s[k].toNat : Nat) : Int) = false) := by subst hlast; exact hx.out hin
            have i1 : (k : Int) + 1 ≤ (s.size : Int) := by omega
            have i2 : (k : Int) < (s.size : Int) := by omega
            clear hlast hkz hrow
            go_wp2_with (go_at_call 8; refine (isDigitByte_v _ _ hdig.out _).mono ?_; rintro e w' ⟨rfl, rfl⟩)
            exact bodyPost_ret (v := .tuple #[.int .i64 0, .string ⟨#[]⟩, .string ⟨#[]⟩, .bool false]) (by simp [results, Try.results11, go_sem]) rfl (F.out _ hbel)
          · have i1 : ¬ ((k : Int) + 1 ≤ (s.size : Int)) := by omega
            clear hlast hkz hrow
            go_wp2
            exact bodyPost_ret (v := .tuple #[.int .i64 0, .string ⟨#[]⟩, .string ⟨#[]⟩, .bool false]) (by simp [results, Try.results11, go_sem]) rfl (F.out _ hbel)
        · have hlt : k < s.size := by omega
          have hdig : Hid (digB ((s[k].toNat : Nat) : Int) = true) := hd.out k hk1 (by omega) hlt
          have i1 : (k : Int) + 1 ≤ (s.size : Int) := by omega
          have i2 : (k : Int) < (s.size : Int) := by omega
          have i3 : (0 : Int) ≤ (k : Int) + 1 := by omega
          by_cases hsp : k + 1 = K
          · have ho := hout.out (by omega)
            have HROW : Hid (wr.rowIs w.heap.size 4 (s.size + 1) (sufF s 0)) := hrow
            have hcell : Hid (∀ t, t < s.size + 1 → wr.cell? ⟨w.heap.size, t, none⟩ = some (.bool (allD (s.data.toList.drop t)))) := by
              intro t ht; rw [hrow.cell (i := t) ht, sufF_zero]
            clear hrow hd hx hh hout hlast hkz
            have j1 : (1 : Int) ≤ (s.size : Int) := by omega
            have j2 : (1 : Int) ≤ (k : Int) + 1 := by omega
            have j3 : k + 1 ≤ s.size := by omega
            subst hsp
            rcases ho with ⟨o1, o2, o3, o4, o5⟩ | ⟨o1, ⟨a1, a2, a3⟩, o2, o3, o4, o5⟩ | ⟨o1, na, ⟨a1, a2, a3⟩, o2, o3, o4, o5⟩ | ⟨o1, na, nb, z1, z2, z3, z4⟩
            · have F : Hid (∀ w', Below w.heap.size w w' → Ending.returned (.tuple #[.int .i64 2, .string (s.extract 1 s.size), .string ⟨#[]⟩, .bool true]) = .returned (.tuple #[.int .i64 T, .string M, .string m, .bool ok]) ∧ Below w.heap.size w w') :=
                fun w' h => ⟨ret4 o2 o3 o4 o5, h⟩
              have hne : ((k : Int) + 1 == (s.size : Int)) = true := beq_iff_eq.2 (by omega)
              clear o1 o2 o3 o4 o5
              go_wp2_with (first
                | (go_at_call 8; refine (isDigitByte_v _ _ hdig.out _).mono ?_; rintro e w' ⟨rfl, rfl⟩))
              go_quiet (fail)
              go_wp2
              exact bodyPost_ret (v := .tuple #[.int .i64 2, .string (s.extract 1 s.size), .string ⟨#[]⟩, .bool true]) (by simp [results, Try.results11, go_sem]) rfl (F.out _ (below_drewN' hbel _))
            · have F : Hid (∀ w', Below w.heap.size w w' → Ending.returned (.tuple #[.int .i64 1, .string (s.extract 1 (k + 1)), .string (s.extract (k + 1 + 4) s.size), .bool true]) = .returned (.tuple #[.int .i64 T, .string M, .string m, .bool ok]) ∧ Below w.heap.size w w') :=
                fun w' h => ⟨ret4 o2 o3 o4 o5, h⟩
              have hne : ((k : Int) + 1 == (s.size : Int)) = false := beq_eq_false_iff_ne.2 (by omega)
              have hnb : Hid (hasL s bP (k + 1) = true) := a1
              have l1 : (k : Int) + 1 + 4 < (s.size : Int) := by omega
              have l2 : (k : Int) + 1 + 4 < (s.size : Int) + 1 := by omega
              have l3 : (0 : Int) ≤ (k : Int) + 1 + 4 := by omega
              have c1 := hcell.out (k + 1 + 4) (by omega)
              rw [a3] at c1
              clear o1 o2 o3 o4 o5 a1 a3
              go_wp2_with (first
                | (go_at_call 8; refine (isDigitByte_v _ _ hdig.out _).mono ?_; rintro e w' ⟨rfl, rfl⟩)
                | (go_at_call_of 14 (Value.string ⟨#[98, 101, 116, 97]⟩); refine (hasAt_z s _ _ (k + 1) _ (by omega) hs (by decide) (by omega) hnb.out _).mono ?_; rintro e w' ⟨rfl, n, rfl⟩))
              go_quiet (fail)
              go_wp2
              exact bodyPost_ret (v := .tuple #[.int .i64 1, .string (s.extract 1 (k + 1)), .string (s.extract (k + 1 + 4) s.size), .bool true]) (by simp [results, Try.results11, go_sem]) rfl (F.out _ (below_drewN' (below_drewN' hbel _) _))
            · have F : Hid (∀ w', Below w.heap.size w w' → Ending.returned (.tuple #[.int .i64 0, .string (s.extract 1 (k + 1)), .string (s.extract (k + 1 + 5) s.size), .bool true]) = .returned (.tuple #[.int .i64 T, .string M, .string m, .bool ok]) ∧ Below w.heap.size w w') :=
                fun w' h => ⟨ret4 o2 o3 o4 o5, h⟩
              have hne : ((k : Int) + 1 == (s.size : Int)) = false := beq_eq_false_iff_ne.2 (by omega)
              have hna : Hid (hasL s aP (k + 1) = true) := a1
              have l1 : (k : Int) + 1 + 5 < (s.size : Int) := by omega
              have l2 : (k : Int) + 1 + 5 < (s.size : Int) + 1 := by omega
              have l3 : (0 : Int) ≤ (k : Int) + 1 + 5 := by omega
              have c1 := hcell.out (k + 1 + 5) (by omega)
              rw [a3] at c1
              have na' := not_acc na
              clear o1 o2 o3 o4 o5 a1 a3 na
              rcases na' with x1 | ⟨x1, x2⟩ | ⟨x1, x2, x3⟩
              · have hnb : Hid (hasL s bP (k + 1) = false) := x1
                clear x1
                go_wp2_with (first
                  | (go_at_call 8; refine (isDigitByte_v _ _ hdig.out _).mono ?_; rintro e w' ⟨rfl, rfl⟩)
                  | (go_at_call_of 14 (Value.string ⟨#[98, 101, 116, 97]⟩); refine (hasAt_z s _ _ (k + 1) _ (by omega) hs (by decide) (by omega) hnb.out _).mono ?_; rintro e w' ⟨rfl, n, rfl⟩)
                  | (go_at_call_of 14 (Value.string ⟨#[97, 108, 112, 104, 97]⟩); refine (hasAt_z s _ _ (k + 1) _ (by omega) hs (by decide) (by omega) hna.out _).mono ?_; rintro e w' ⟨rfl, n, rfl⟩))
                go_quiet (fail)
                go_wp2
                exact bodyPost_ret (v := .tuple #[.int .i64 0, .string (s.extract 1 (k + 1)), .string (s.extract (k + 1 + 5) s.size), .bool true]) (by simp [results, Try.results11, go_sem]) rfl (F.out _ (below_drewN' (below_drewN' hbel _) _))
              · have hnb : Hid (hasL s bP (k + 1) = true) := x1
                have hnbl : decide ((k : Int) + 1 + 4 < (s.size : Int)) = false := by rw [decide_eq_false_iff_not]; omega
                have hnbm : ¬ ((k : Int) + 1 + 4 < (s.size : Int)) := by omega
                clear x1 x2
                go_wp2_with (first
                  | (go_at_call 8; refine (isDigitByte_v _ _ hdig.out _).mono ?_; rintro e w' ⟨rfl, rfl⟩)
                  | (go_at_call_of 14 (Value.string ⟨#[98, 101, 116, 97]⟩); refine (hasAt_z s _ _ (k + 1) _ (by omega) hs (by decide) (by omega) hnb.out _).mono ?_; rintro e w' ⟨rfl, n, rfl⟩)
                  | (go_at_call_of 14 (Value.string ⟨#[97, 108, 112, 104, 97]⟩); refine (hasAt_z s _ _ (k + 1) _ (by omega) hs (by decide) (by omega) hna.out _).mono ?_; rintro e w' ⟨rfl, n, rfl⟩))
                go_quiet (fail)
                go_wp2
                exact bodyPost_ret (v := .tuple #[.int .i64 0, .string (s.extract 1 (k + 1)), .string (s.extract (k + 1 + 5) s.size), .bool true]) (by simp [results, Try.results11, go_sem]) rfl (F.out _ (below_drewN' (below_drewN' hbel _) _))
              · have hnb : Hid (hasL s bP (k + 1) = true) := x1
                have hnbl : (k : Int) + 1 + 4 < (s.size : Int) := by omega
                have hnbl2 : (k : Int) + 1 + 4 < (s.size : Int) + 1 := by omega
                have hnbl3 : (0 : Int) ≤ (k : Int) + 1 + 4 := by omega
                have hnbc := hcell.out (k + 1 + 4) (by omega)
                rw [x3] at hnbc
                clear x1 x2 x3
                go_wp2_with (first
                  | (go_at_call 8; refine (isDigitByte_v _ _ hdig.out _).mono ?_; rintro e w' ⟨rfl, rfl⟩)
                  | (go_at_call_of 14 (Value.string ⟨#[98, 101, 116, 97]⟩); refine (hasAt_z s _ _ (k + 1) _ (by omega) hs (by decide) (by omega) hnb.out _).mono ?_; rintro e w' ⟨rfl, n, rfl⟩)
                  | (go_at_call_of 14 (Value.string ⟨#[97, 108, 112, 104, 97]⟩); refine (hasAt_z s _ _ (k + 1) _ (by omega) hs (by decide) (by omega) hna.out _).mono ?_; rintro e w' ⟨rfl, n, rfl⟩))
                go_quiet (fail)
                go_wp2
                exact bodyPost_ret (v := .tuple #[.int .i64 0, .string (s.extract 1 (k + 1)), .string (s.extract (k + 1 + 5) s.size), .bool true]) (by simp [results, Try.results11, go_sem]) rfl (F.out _ (below_drewN' (below_drewN' hbel _) _))
            · have F : Hid (∀ w', Below w.heap.size w w' → Z T M m ok ∧ Below w.heap.size w w') := fun w' h => ⟨⟨z1, z2, z3, z4⟩, h⟩
              have hne : ((k : Int) + 1 == (s.size : Int)) = false := beq_eq_false_iff_ne.2 (by omega)
              have na' := not_acc na
              have nb' := not_acc nb
              have HZ : Hid (Z T M m ok) := ⟨z1, z2, z3, z4⟩
              clear o1 na nb z1 z2 z3 z4
              rcases na' with x1 | ⟨x1, x2⟩ | ⟨x1, x2, x3⟩
              · have hnb : Hid (hasL s bP (k + 1) = false) := x1
                clear x1
                rcases nb' with x1 | ⟨x1, x2⟩ | ⟨x1, x2, x3⟩
                · have hna : Hid (hasL s aP (k + 1) = false) := x1
                  clear x1
                  go_wp2_with (first
                    | (go_at_call 8; refine (isDigitByte_v _ _ hdig.out _).mono ?_; rintro e w' ⟨rfl, rfl⟩)
                    | (go_at_call_of 14 (Value.string ⟨#[98, 101, 116, 97]⟩); refine (hasAt_z s _ _ (k + 1) _ (by omega) hs (by decide) (by omega) hnb.out _).mono ?_; rintro e w' ⟨rfl, n, rfl⟩)
                    | (go_at_call_of 14 (Value.string ⟨#[97, 108, 112, 104, 97]⟩); refine (hasAt_z s _ _ (k + 1) _ (by omega) hs (by decide) (by omega) hna.out _).mono ?_; rintro e w' ⟨rfl, n, rfl⟩))
                  go_roundw
                  case rel =>
                    (repeat apply Exists.intro)
                    exact ⟨⟨k + 1, by omega, by omega, by go_num, fun _ => HZ.out, HROW.out, below_drewN' hbel _⟩, rfl⟩
                  case measure => simp [intOf]; omega
                · have hna : Hid (hasL s aP (k + 1) = true) := x1
                  have hnal : decide ((k : Int) + 1 + 5 < (s.size : Int)) = false := by rw [decide_eq_false_iff_not]; omega
                  have hnam : ¬ ((k : Int) + 1 + 5 < (s.size : Int)) := by omega
                  clear x1 x2
                  go_wp2_with (first
                    | (go_at_call 8; refine (isDigitByte_v _ _ hdig.out _).mono ?_; rintro e w' ⟨rfl, rfl⟩)
                    | (go_at_call_of 14 (Value.string ⟨#[98, 101, 116, 97]⟩); refine (hasAt_z s _ _ (k + 1) _ (by omega) hs (by decide) (by omega) hnb.out _).mono ?_; rintro e w' ⟨rfl, n, rfl⟩)
                    | (go_at_call_of 14 (Value.string ⟨#[97, 108, 112, 104, 97]⟩); refine (hasAt_z s _ _ (k + 1) _ (by omega) hs (by decide) (by omega) hna.out _).mono ?_; rintro e w' ⟨rfl, n, rfl⟩))
                  go_roundw
                  case rel =>
                    (repeat apply Exists.intro)
                    exact ⟨⟨k + 1, by omega, by omega, by go_num, fun _ => HZ.out, HROW.out, below_drewN' hbel _⟩, rfl⟩
                  case measure => simp [intOf]; omega
                · have hna : Hid (hasL s aP (k + 1) = true) := x1
                  have hnal : (k : Int) + 1 + 5 < (s.size : Int) := by omega
                  have hnal2 : (k : Int) + 1 + 5 < (s.size : Int) + 1 := by omega
                  have hnal3 : (0 : Int) ≤ (k : Int) + 1 + 5 := by omega
                  have hnac := hcell.out (k + 1 + 5) (by omega)
                  rw [x3] at hnac
                  clear x1 x2 x3
                  go_wp2_with (first
                    | (go_at_call 8; refine (isDigitByte_v _ _ hdig.out _).mono ?_; rintro e w' ⟨rfl, rfl⟩)
                    | (go_at_call_of 14 (Value.string ⟨#[98, 101, 116, 97]⟩); refine (hasAt_z s _ _ (k + 1) _ (by omega) hs (by decide) (by omega) hnb.out _).mono ?_; rintro e w' ⟨rfl, n, rfl⟩)
                    | (go_at_call_of 14 (Value.string ⟨#[97, 108, 112, 104, 97]⟩); refine (hasAt_z s _ _ (k + 1) _ (by omega) hs (by decide) (by omega) hna.out _).mono ?_; rintro e w' ⟨rfl, n, rfl⟩))
                  go_roundw
                  case rel =>
                    (repeat apply Exists.intro)
                    exact ⟨⟨k + 1, by omega, by omega, by go_num, fun _ => HZ.out, HROW.out, below_drewN' hbel _⟩, rfl⟩
                  case measure => simp [intOf]; omega
              · have hnb : Hid (hasL s bP (k + 1) = true) := x1
                have hnbl : decide ((k : Int) + 1 + 4 < (s.size : Int)) = false := by rw [decide_eq_false_iff_not]; omega
                have hnbm : ¬ ((k : Int) + 1 + 4 < (s.size : Int)) := by omega
                clear x1 x2
                rcases nb' with x1 | ⟨x1, x2⟩ | ⟨x1, x2, x3⟩
                · have hna : Hid (hasL s aP (k + 1) = false) := x1
                  clear x1
                  go_wp2_with (first
                    | (go_at_call 8; refine (isDigitByte_v _ _ hdig.out _).mono ?_; rintro e w' ⟨rfl, rfl⟩)
                    | (go_at_call_of 14 (Value.string ⟨#[98, 101, 116, 97]⟩); refine (hasAt_z s _ _ (k + 1) _ (by omega) hs (by decide) (by omega) hnb.out _).mono ?_; rintro e w' ⟨rfl, n, rfl⟩)
                    | (go_at_call_of 14 (Value.string ⟨#[97, 108, 112, 104, 97]⟩); refine (hasAt_z s _ _ (k + 1) _ (by omega) hs (by decide) (by omega) hna.out _).mono ?_; rintro e w' ⟨rfl, n, rfl⟩))
                  go_roundw
                  case rel =>
                    (repeat apply Exists.intro)
                    exact ⟨⟨k + 1, by omega, by omega, by go_num, fun _ => HZ.out, HROW.out, below_drewN' hbel _⟩, rfl⟩
                  case measure => simp [intOf]; omega
                · have hna : Hid (hasL s aP (k + 1) = true) := x1
                  have hnal : decide ((k : Int) + 1 + 5 < (s.size : Int)) = false := by rw [decide_eq_false_iff_not]; omega
                  have hnam : ¬ ((k : Int) + 1 + 5 < (s.size : Int)) := by omega
                  clear x1 x2
                  go_wp2_with (first
                    | (go_at_call 8; refine (isDigitByte_v _ _ hdig.out _).mono ?_; rintro e w' ⟨rfl, rfl⟩)
                    | (go_at_call_of 14 (Value.string ⟨#[98, 101, 116, 97]⟩); refine (hasAt_z s _ _ (k + 1) _ (by omega) hs (by decide) (by omega) hnb.out _).mono ?_; rintro e w' ⟨rfl, n, rfl⟩)
                    | (go_at_call_of 14 (Value.string ⟨#[97, 108, 112, 104, 97]⟩); refine (hasAt_z s _ _ (k + 1) _ (by omega) hs (by decide) (by omega) hna.out _).mono ?_; rintro e w' ⟨rfl, n, rfl⟩))
                  go_roundw
                  case rel =>
                    (repeat apply Exists.intro)
                    exact ⟨⟨k + 1, by omega, by omega, by go_num, fun _ => HZ.out, HROW.out, below_drewN' hbel _⟩, rfl⟩
                  case measure => simp [intOf]; omega
                · have hna : Hid (hasL s aP (k + 1) = true) := x1
                  have hnal : (k : Int) + 1 + 5 < (s.size : Int) := by omega
                  have hnal2 : (k : Int) + 1 + 5 < (s.size : Int) + 1 := by omega
                  have hnal3 : (0 : Int) ≤ (k : Int) + 1 + 5 := by omega
                  have hnac := hcell.out (k + 1 + 5) (by omega)
                  rw [x3] at hnac
                  clear x1 x2 x3
                  go_wp2_with (first
                    | (go_at_call 8; refine (isDigitByte_v _ _ hdig.out _).mono ?_; rintro e w' ⟨rfl, rfl⟩)
                    | (go_at_call_of 14 (Value.string ⟨#[98, 101, 116, 97]⟩); refine (hasAt_z s _ _ (k + 1) _ (by omega) hs (by decide) (by omega) hnb.out _).mono ?_; rintro e w' ⟨rfl, n, rfl⟩)
                    | (go_at_call_of 14 (Value.string ⟨#[97, 108, 112, 104, 97]⟩); refine (hasAt_z s _ _ (k + 1) _ (by omega) hs (by decide) (by omega) hna.out _).mono ?_; rintro e w' ⟨rfl, n, rfl⟩))
                  go_roundw
                  case rel =>
                    (repeat apply Exists.intro)
                    exact ⟨⟨k + 1, by omega, by omega, by go_num, fun _ => HZ.out, HROW.out, below_drewN' hbel _⟩, rfl⟩
                  case measure => simp [intOf]; omega
              · have hnb : Hid (hasL s bP (k + 1) = true) := x1
                have hnbl : (k : Int) + 1 + 4 < (s.size : Int) := by omega
                have hnbl2 : (k : Int) + 1 + 4 < (s.size : Int) + 1 := by omega
                have hnbl3 : (0 : Int) ≤ (k : Int) + 1 + 4 := by omega
                have hnbc := hcell.out (k + 1 + 4) (by omega)
                rw [x3] at hnbc
                clear x1 x2 x3
                rcases nb' with x1 | ⟨x1, x2⟩ | ⟨x1, x2, x3⟩
                · have hna : Hid (hasL s aP (k + 1) = false) := x1
                  clear x1
                  go_wp2_with (first
                    | (go_at_call 8; refine (isDigitByte_v _ _ hdig.out _).mono ?_; rintro e w' ⟨rfl, rfl⟩)
                    | (go_at_call_of 14 (Value.string ⟨#[98, 101, 116, 97]⟩); refine (hasAt_z s _ _ (k + 1) _ (by omega) hs (by decide) (by omega) hnb.out _).mono ?_; rintro e w' ⟨rfl, n, rfl⟩)
                    | (go_at_call_of 14 (Value.string ⟨#[97, 108, 112, 104, 97]⟩); refine (hasAt_z s _ _ (k + 1) _ (by omega) hs (by decide) (by omega) hna.out _).mono ?_; rintro e w' ⟨rfl, n, rfl⟩))
                  go_roundw
                  case rel =>
                    (repeat apply Exists.intro)
                    exact ⟨⟨k + 1, by omega, by omega, by go_num, fun _ => HZ.out, HROW.out, below_drewN' hbel _⟩, rfl⟩
                  case measure => simp [intOf]; omega
                · have hna : Hid (hasL s aP (k + 1) = true) := x1
                  have hnal : decide ((k : Int) + 1 + 5 < (s.size : Int)) = false := by rw [decide_eq_false_iff_not]; omega
                  have hnam : ¬ ((k : Int) + 1 + 5 < (s.size : Int)) := by omega
                  clear x1 x2
                  go_wp2_with (first
                    | (go_at_call 8; refine (isDigitByte_v _ _ hdig.out _).mono ?_; rintro e w' ⟨rfl, rfl⟩)
                    | (go_at_call_of 14 (Value.string ⟨#[98, 101, 116, 97]⟩); refine (hasAt_z s _ _ (k + 1) _ (by omega) hs (by decide) (by omega) hnb.out _).mono ?_; rintro e w' ⟨rfl, n, rfl⟩)
                    | (go_at_call_of 14 (Value.string ⟨#[97, 108, 112, 104, 97]⟩); refine (hasAt_z s _ _ (k + 1) _ (by omega) hs (by decide) (by omega) hna.out _).mono ?_; rintro e w' ⟨rfl, n, rfl⟩))
                  go_roundw
                  case rel =>
                    (repeat apply Exists.intro)
                    exact ⟨⟨k + 1, by omega, by omega, by go_num, fun _ => HZ.out, HROW.out, below_drewN' hbel _⟩, rfl⟩
                  case measure => simp [intOf]; omega
                · have hna : Hid (hasL s aP (k + 1) = true) := x1
                  have hnal : (k : Int) + 1 + 5 < (s.size : Int) := by omega
                  have hnal2 : (k : Int) + 1 + 5 < (s.size : Int) + 1 := by omega
                  have hnal3 : (0 : Int) ≤ (k : Int) + 1 + 5 := by omega
                  have hnac := hcell.out (k + 1 + 5) (by omega)
                  rw [x3] at hnac
                  clear x1 x2 x3
                  go_wp2_with (first
                    | (go_at_call 8; refine (isDigitByte_v _ _ hdig.out _).mono ?_; rintro e w' ⟨rfl, rfl⟩)
                    | (go_at_call_of 14 (Value.string ⟨#[98, 101, 116, 97]⟩); refine (hasAt_z s _ _ (k + 1) _ (by omega) hs (by decide) (by omega) hnb.out _).mono ?_; rintro e w' ⟨rfl, n, rfl⟩)
                    | (go_at_call_of 14 (Value.string ⟨#[97, 108, 112, 104, 97]⟩); refine (hasAt_z s _ _ (k + 1) _ (by omega) hs (by decide) (by omega) hna.out _).mono ?_; rintro e w' ⟨rfl, n, rfl⟩))
                  go_roundw
                  case rel =>
                    (repeat apply Exists.intro)
                    exact ⟨⟨k + 1, by omega, by omega, by go_num, fun _ => HZ.out, HROW.out, below_drewN' hbel _⟩, rfl⟩
                  case measure => simp [intOf]; omega
          · have hno := hh.out (k + 1) (by omega) (by omega)
            have hnb : Hid (hasL s bP (k + 1) = false) := hno.1
            have hna : Hid (hasL s aP (k + 1) = false) := hno.2
            have hne : ((k : Int) + 1 == (s.size : Int)) = false := beq_eq_false_iff_ne.2 (by omega)
            clear hno
            have HROW : Hid (wr.rowIs w.heap.size 4 (s.size + 1) (sufF s 0)) := hrow
            clear hrow
            go_wp2_with (first
              | (go_at_call 8; refine (isDigitByte_v _ _ hdig.out _).mono ?_; rintro e w' ⟨rfl, rfl⟩)
              | (go_at_call_of 14 (Value.string ⟨#[98, 101, 116, 97]⟩); refine (hasAt_z s _ _ (k + 1) _ (by omega) hs (by decide) (by omega) hnb.out _).mono ?_; rintro e w' ⟨rfl, n, rfl⟩)
              | (go_at_call_of 14 (Value.string ⟨#[97, 108, 112, 104, 97]⟩); refine (hasAt_z s _ _ (k + 1) _ (by omega) hs (by decide) (by omega) hna.out _).mono ?_; rintro e w' ⟨rfl, n, rfl⟩))
            go_roundw
            case rel =>
              (repeat apply Exists.intro)
              exact ⟨⟨k + 1, by omega, by omega, by go_num, fun h => absurd h hsp, HROW.out, below_drewN' hbel _⟩, rfl⟩
            case measure => simp [intOf]; omega
    | succ j =>
      have hlt : j < s.size := by omega
      have e1 : ((j + 1 : Nat) : Int) - 1 = (j : Int) := by omega
      rw [e1]
      obtain ⟨v, hv⟩ : ∃ v, Hid (v = allD (s.data.toList.drop (j + 1))) := ⟨_, rfl⟩
      obtain ⟨d, hd⟩ : ∃ d, Hid (digB ((s[j].toNat : Nat) : Int) = d) := ex_val _
      have c1 : wr.cell? ⟨w.heap.size, j + 1, none⟩ = some (.bool v) := by
        rw [hrow.cell (i := j + 1) (by omega), hv.out, sufF_at]
      have c2 : wr.cell? ⟨w.heap.size, j, none⟩ = some (.bool false) := by
        rw [hrow.cell (i := j) (by omega), sufF_lt]; omega
      have c3 := hrow.frozen j
      have HR : Hid ((wr.setCell ⟨w.heap.size, j, none⟩ (.bool (v && d))).rowIs w.heap.size 4 (s.size + 1) (sufF s j)) :=
        row_step s j w.heap.size wr _ hlt hrow (by rw [hv.out, hd.out])
      clear hrow
      have b1 : (j : Int) + 1 < (s.size : Int) + 1 := by omega
      have b2 : (j : Int) < (s.size : Int) + 1 := by omega
      have b3 : (j : Int) < (s.size : Int) := by omega
      cases v
      · go_wp2_with (go_at_call 8; refine (isDigitByte_v _ _ hd.out _).mono ?_; rintro e w' ⟨rfl, rfl⟩)
        go_roundw
        case rel => exact ⟨j, by omega, rfl, HR.out, hbel.setCell (Nat.le_refl _) _⟩
        case measure => simp [intOf]
      · go_wp2_with (go_at_call 8; refine (isDigitByte_v _ _ hd.out _).mono ?_; rintro e w' ⟨rfl, rfl⟩)
        go_roundw
        case rel => exact ⟨j, by omega, rfl, HR.out, hbel.setCell (Nat.le_refl _) _⟩
        case measure => simp [intOf]
end Go.Proofs.Qxb6619284a.Md
