/-
  parse and modelParse, each at every string: both compute 'parseL' of the bytes.
-/
import Derived.Test.Qxb6619284aLaw
import Derived.Test.Qxb6619284aZZ
import Derived.Test.Qxb6619284aModel
namespace Go.Proofs.Qxb6619284a.Lk
open Go.RowKit
open Pl Wk Lb Ps Zz Hs Md
set_option linter.unusedVariables false

theorem of_list (l : List UInt8) : ∃ b : ByteArray, Hid (b.data.toList = l) := ⟨⟨l.toArray⟩, rfl⟩
theorem size_of {b : ByteArray} {l : List UInt8} (h : b.data.toList = l) : b.size = l.length := by rw [← h, size_data]
theorem empty_of {b : ByteArray} (h : b.data.toList = []) : b = ⟨#[]⟩ := ba_ext (by rw [h])
theorem zero_of {T : Int} {M m : ByteArray} {ok : Bool} (h : zeroR = (T, M.data.toList, m.data.toList, ok)) : T = 0 ∧ M = ⟨#[]⟩ ∧ m = ⟨#[]⟩ ∧ ok = false := by
  simp only [zeroR, Prod.mk.injEq] at h
  exact ⟨h.1.symm, empty_of h.2.1.symm, empty_of h.2.2.1.symm, h.2.2.2.symm⟩
theorem tw_len (l : List UInt8) : (tw l).length ≤ l.length := by
  have h := congrArg List.length (tw_dw l)
  rw [List.length_append] at h; omega
theorem dw_len (l : List UInt8) : (dw l).length ≤ l.length := by
  have h := congrArg List.length (tw_dw l)
  rw [List.length_append] at h; omega
theorem pos_of {b : ByteArray} {l : List UInt8} (h : b.data.toList = l) (hl : l ≠ []) : 0 < b.size := by
  rw [size_of h]; exact List.length_pos_iff.2 hl

theorem parse_all (s : ByteArray) (hs : s.size ≤ maxLen) (T : Int) (M m : ByteArray) (ok : Bool) (h : parseL s.data.toList = (T, M.data.toList, m.data.toList, ok)) (w : World) : P13 s w T M m ok := by
  unfold parseL at h
  by_cases hv : [118].isPrefixOf s.data.toList = true
  · rw [if_pos hv] at h
    obtain ⟨t, ht⟩ := of_list (s.data.toList.drop 1)
    have hts : t.size ≤ maxLen := by rw [size_of ht.out, List.length_drop, size_data]; omega
    rw [← ht.out] at h
    obtain ⟨M', hM⟩ := of_list (tw t.data.toList)
    obtain ⟨r, hr⟩ := of_list (dw t.data.toList)
    have hrs : r.size ≤ maxLen := by
      have := dw_len t.data.toList; rw [size_of hr.out]; rw [size_data] at this; omega
    have hpv : Hid (prefB s ⟨#[118]⟩ = true) := hv
    unfold restR at h
    by_cases h1 : tw t.data.toList = []
    · rw [if_pos h1] at h
      obtain ⟨rfl, rfl, rfl, rfl⟩ := zero_of h
      exact p_nodig s t M' r hs hpv ht hts hM hr (by rw [size_of hM.out, h1]; rfl) w
    · rw [if_neg h1] at h
      have hM0 := pos_of hM.out h1
      by_cases h2 : dw t.data.toList = []
      · rw [if_pos h2] at h
        simp only [Prod.mk.injEq] at h
        obtain ⟨rfl, e1, e2, rfl⟩ := h
        obtain rfl : M' = M := ba_ext (by rw [hM.out, e1])
        obtain rfl := empty_of e2.symm
        exact p_ga s t M' r hs hpv ht hts hM hr hM0 (by rw [size_of hr.out, h2]; rfl) w
      · rw [if_neg h2] at h
        have hr0 := pos_of hr.out h2
        have e0 : r.data.toList = dw t.data.toList := hr.out
        rw [← e0] at h
        by_cases h3 : bL.isPrefixOf r.data.toList = true
        · rw [if_pos h3] at h
          have hb : Hid (prefB r ⟨#[98, 101, 116, 97]⟩ = true) := h3
          obtain ⟨q, hq⟩ := of_list (r.data.toList.drop 4)
          have hqs : q.size ≤ maxLen := by rw [size_of hq.out, List.length_drop, size_data]; omega
          obtain ⟨m', hm⟩ := of_list (tw q.data.toList)
          obtain ⟨e, he⟩ := of_list (dw q.data.toList)
          rw [← hq.out] at h
          unfold tailR at h
          by_cases h4 : tw q.data.toList = []
          · rw [if_neg (fun x => x.1 h4)] at h
            obtain ⟨rfl, rfl, rfl, rfl⟩ := zero_of h
            exact p_beta_bad1 s t M' r q m' e hs hpv ht hts hM hr hM0 hr0 hrs hb hq hqs hm he (by rw [size_of hm.out, h4]; rfl) w
          · by_cases h5 : dw q.data.toList = []
            · rw [if_pos ⟨h4, h5⟩] at h
              simp only [Prod.mk.injEq] at h
              obtain ⟨rfl, e1, e2, rfl⟩ := h
              obtain rfl : M' = M := ba_ext (by rw [hM.out, e1])
              obtain rfl : m' = m := ba_ext (by rw [hm.out, e2])
              exact p_beta_ok s t M' r q m' e hs hpv ht hts hM hr hM0 hr0 hrs hb hq hqs hm he (pos_of hm.out h4) (by rw [size_of he.out, h5]; rfl) w
            · rw [if_neg (fun x => h5 x.2)] at h
              obtain ⟨rfl, rfl, rfl, rfl⟩ := zero_of h
              exact p_beta_bad2 s t M' r q m' e hs hpv ht hts hM hr hM0 hr0 hrs hb hq hqs hm he (pos_of hm.out h4) (pos_of he.out h5) w
        · rw [if_neg h3] at h
          have hb : Hid (prefB r ⟨#[98, 101, 116, 97]⟩ = false) := Bool.eq_false_iff.2 h3
          by_cases h6 : aL.isPrefixOf r.data.toList = true
          · rw [if_pos h6] at h
            have ha : Hid (prefB r ⟨#[97, 108, 112, 104, 97]⟩ = true) := h6
            obtain ⟨q, hq⟩ := of_list (r.data.toList.drop 5)
            have hqs : q.size ≤ maxLen := by rw [size_of hq.out, List.length_drop, size_data]; omega
            obtain ⟨m', hm⟩ := of_list (tw q.data.toList)
            obtain ⟨e, he⟩ := of_list (dw q.data.toList)
            rw [← hq.out] at h
            unfold tailR at h
            by_cases h4 : tw q.data.toList = []
            · rw [if_neg (fun x => x.1 h4)] at h
              obtain ⟨rfl, rfl, rfl, rfl⟩ := zero_of h
              exact p_alpha_bad1 s t M' r q m' e hs hpv ht hts hM hr hM0 hr0 hrs hb ha hq hqs hm he (by rw [size_of hm.out, h4]; rfl) w
            · by_cases h5 : dw q.data.toList = []
              · rw [if_pos ⟨h4, h5⟩] at h
                simp only [Prod.mk.injEq] at h
                obtain ⟨rfl, e1, e2, rfl⟩ := h
                obtain rfl : M' = M := ba_ext (by rw [hM.out, e1])
                obtain rfl : m' = m := ba_ext (by rw [hm.out, e2])
                exact p_alpha_ok s t M' r q m' e hs hpv ht hts hM hr hM0 hr0 hrs hb ha hq hqs hm he (pos_of hm.out h4) (by rw [size_of he.out, h5]; rfl) w
              · rw [if_neg (fun x => h5 x.2)] at h
                obtain ⟨rfl, rfl, rfl, rfl⟩ := zero_of h
                exact p_alpha_bad2 s t M' r q m' e hs hpv ht hts hM hr hM0 hr0 hrs hb ha hq hqs hm he (pos_of hm.out h4) (pos_of he.out h5) w
          · rw [if_neg h6] at h
            have ha : Hid (prefB r ⟨#[97, 108, 112, 104, 97]⟩ = false) := Bool.eq_false_iff.2 h6
            obtain ⟨rfl, rfl, rfl, rfl⟩ := zero_of h
            exact p_neither s t M' r hs hpv ht hts hM hr hM0 hr0 hrs hb ha w
  · rw [if_neg hv] at h
    obtain ⟨rfl, rfl, rfl, rfl⟩ := zero_of h
    obtain ⟨d, hd⟩ := of_list (tw s.data.toList)
    obtain ⟨r, hr⟩ := of_list (dw s.data.toList)
    exact p_no s d r hs (Bool.eq_false_iff.2 hv) hd hr w

theorem ZZparse_all (s : ByteArray) (hs : s.size ≤ maxLen) (T : Int) (M m : ByteArray) (ok : Bool) (h : parseL s.data.toList = (T, M.data.toList, m.data.toList, ok)) (w : World) : P10 s w T M m ok :=
  ZZparse s T M m ok (fun w => parse_all s hs T M m ok h w) w

def P11 (s : ByteArray) (w : World) (T : Int) (M m : ByteArray) (ok : Bool) : Prop :=
    Calls Try.prog 11 #[.string s] w fun e w' => e = .returned (.tuple #[.int .i64 T, .string M, .string m, .bool ok]) ∧ Below w.heap.size w w'

set_option maxHeartbeats 1000000 in
theorem m_short (s : ByteArray) (h : s.size < 2) (w : World) : P11 s w 0 ⟨#[]⟩ ⟨#[]⟩ false := by
  unfold P11
  have h1 : (s.size : Int) < 2 := by omega
  go_enter Try.func11, Try.ntmps11
  go_wp2
  exact bodyPost_ret (v := .tuple #[.int .i64 0, .string ⟨#[]⟩, .string ⟨#[]⟩, .bool false]) (by simp [results, Try.results11, go_sem]) rfl ⟨rfl, Below.refl _ _⟩

set_option maxHeartbeats 1000000 in
theorem m_nov (s : ByteArray) (h : 2 ≤ s.size) (h0 : (((s[0].toNat : Nat) : Int) != 118) = true) (w : World) : P11 s w 0 ⟨#[]⟩ ⟨#[]⟩ false := by
  unfold P11
  have h1 : ¬ (s.size : Int) < 2 := by omega
  have h3 : (0 : Int) < (s.size : Int) := by omega
  go_enter Try.func11, Try.ntmps11
  go_wp2
  exact bodyPost_ret (v := .tuple #[.int .i64 0, .string ⟨#[]⟩, .string ⟨#[]⟩, .bool false]) (by simp [results, Try.results11, go_sem]) rfl ⟨rfl, Below.refl _ _⟩

theorem tw_get (t : List UInt8) (i : Nat) (h : i < (tw t).length) : ∃ c, t[i]? = some c ∧ dC c = true := by
  have h1 := tw_dw t
  have h2 := tw_all t
  unfold allD at h2
  rw [List.all_eq_true] at h2
  refine ⟨(tw t)[i], ?_, h2 _ (List.getElem_mem h)⟩
  have h3 : (tw t ++ dw t)[i]? = some (tw t)[i] := by
    rw [List.getElem?_append_left h, List.getElem?_eq_getElem h]
  rw [h1] at h3
  exact h3
theorem dw_drop (t : List UInt8) : dw t = t.drop (tw t).length := by
  have h1 := tw_dw t
  have h2 : (tw t ++ dw t).drop (tw t).length = dw t := by simp
  rw [h1] at h2
  exact h2.symm
theorem tw_take' (t : List UInt8) : tw t = t.take (tw t).length := by
  have h1 := tw_dw t
  have h2 : (tw t ++ dw t).take (tw t).length = tw t := by simp
  rw [h1] at h2
  exact h2.symm
theorem not_pre (P : List UInt8) (c d : UInt8) (l : List UInt8) (x : UInt8) (hl : l[0]? = some x) (hx : dC x = true) (hP : ∃ p, P[0]? = some p ∧ dC p = false) : P.isPrefixOf l = false := by
  rw [Bool.eq_false_iff]
  intro h
  obtain ⟨r, hr⟩ := List.isPrefixOf_iff_prefix.1 h
  obtain ⟨p, hp, hd⟩ := hP
  have h0 : 0 < P.length := by
    cases P with
    | nil => simp at hp
    | cons a b => simp
  rw [← hr, List.getElem?_append_left h0, hp] at hl
  cases hl
  rw [hx] at hd
  cases hd

theorem model_all (s : ByteArray) (hs : s.size ≤ 1048576) (T : Int) (M m : ByteArray) (ok : Bool) (h : parseL s.data.toList = (T, M.data.toList, m.data.toList, ok)) (w : World) : P11 s w T M m ok := by
  by_cases h2 : 2 ≤ s.size
  · cases h0 : (((s[0].toNat : Nat) : Int) != 118)
    · have hv : s[0] = 118 := by
        simp at h0
        exact UInt8.toNat_inj.1 (by have h9 : s[0].toNat = 118 := by omega
                                    rw [h9]; rfl)
      obtain ⟨t, ht⟩ := cons_of_size s (by omega)
      rw [hv] at ht
      have hd1 : s.data.toList.drop 1 = t := by rw [ht]; rfl
      have htl : t.length + 1 = s.size := by rw [← size_data, ht]; rfl
      have hget : ∀ k (hk : k < s.size), 1 ≤ k → t[k - 1]? = some s[k] := by
        intro k hk hk1
        have := Pl.get_at s k hk
        rw [ht] at this
        rw [← this]
        obtain ⟨j, rfl⟩ : ∃ j, k = j + 1 := ⟨k - 1, by omega⟩
        simp
      unfold parseL at h
      rw [if_pos (by rw [ht]; rfl), hd1] at h
      have htw := tw_len t
      have hdrop : ∀ k, 1 ≤ k → s.data.toList.drop k = t.drop (k - 1) := by
        intro k hk
        rw [ht]
        obtain ⟨j, rfl⟩ : ∃ j, k = j + 1 := ⟨k - 1, by omega⟩
        simp
      have hdw : s.data.toList.drop ((tw t).length + 1) = dw t := by rw [hdrop _ (by omega), dw_drop t]; rfl
      have hlen := congrArg List.length (tw_dw t)
      rw [List.length_append] at hlen
      refine model s hs h2 h0 ((tw t).length + 1) T M m ok (by omega) (by omega) ?_ ?_ ?_ ?_ ?_ w
      · intro k hk1 hk2 hk
        obtain ⟨c, hc1, hc2⟩ := tw_get t (k - 1) (by omega)
        rw [hget k hk hk1] at hc1
        cases hc1
        exact hc2
      · intro hk
        have h1 := hget ((tw t).length + 1) hk (by omega)
        simp only [Nat.add_sub_cancel] at h1
        have h3 : (dw t)[0]? = some (s[(tw t).length + 1]) := by rw [dw_drop t, List.getElem?_drop]; exact h1
        cases hd : dw t with
        | nil => rw [hd] at h3; simp at h3
        | cons c r =>
          rw [hd] at h3
          simp at h3
          rw [← h3]
          exact dw_head t r c hd
      · intro k hk1 hk2
        obtain ⟨c, hc1, hc2⟩ := tw_get t (k - 1) (by omega)
        have h4 : (s.data.toList.drop k)[0]? = some c := by rw [hdrop k (by omega), List.getElem?_drop]; exact hc1
        exact ⟨not_pre _ c c _ c h4 hc2 ⟨98, rfl, by decide⟩, not_pre _ c c _ c h4 hc2 ⟨97, rfl, by decide⟩⟩
      · intro hk
        have : tw t = [] := List.eq_nil_of_length_eq_zero (by omega)
        unfold restR at h
        rw [if_pos this] at h
        obtain ⟨rfl, rfl, rfl, rfl⟩ := zero_of h
        exact ⟨rfl, rfl, rfl, rfl⟩
      · intro hk
        have hne : ¬ tw t = [] := fun e => by rw [e] at hk; simp at hk
        unfold restR at h
        rw [if_neg hne] at h
        have hM' : s.extract 1 ((tw t).length + 1) = ⟨(tw t).toArray⟩ := ba_ext (by rw [data_extract, hd1]; simp; exact (tw_take' t).symm)
        have hacc : ∀ (P : ByteArray) (L : Nat), Acc s P L ((tw t).length + 1) ↔ (P.data.toList.isPrefixOf (dw t) = true ∧ (dw t).drop L ≠ [] ∧ dw ((dw t).drop L) = []) := by
          intro P L
          unfold Md.Acc hasL
          have e1 : s.data.toList.drop ((tw t).length + 1 + L) = (dw t).drop L := by rw [← hdw, List.drop_drop]
          rw [hdw, e1, ← dw_nil_iff]
          refine and_congr_right fun _ => and_congr_left fun _ => ?_
          rw [ne_eq, List.drop_eq_nil_iff]
          omega
        have hrest : ∀ L, s.extract ((tw t).length + 1 + L) s.size = ⟨((dw t).drop L).toArray⟩ := by
          intro L
          exact ba_ext (by rw [data_rest, ← List.drop_drop, hdw])
        by_cases h3 : dw t = []
        · rw [if_pos h3] at h
          simp only [Prod.mk.injEq] at h
          obtain ⟨rfl, e1, e2, rfl⟩ := h
          refine .inl ⟨?_, rfl, ba_ext ?_, (empty_of e2.symm).symm, rfl⟩
          · rw [h3] at hlen; simp at hlen; omega
          · rw [data_rest, hd1, ← e1, tw_of_dw_nil t h3]
        · rw [if_neg h3] at h
          have hlt : (tw t).length + 1 < s.size := by
            have := List.length_pos_iff.2 h3; omega
          by_cases h4 : bL.isPrefixOf (dw t) = true
          · rw [if_pos h4] at h
            unfold tailR at h
            by_cases h5 : tw ((dw t).drop 4) ≠ [] ∧ dw ((dw t).drop 4) = []
            · rw [if_pos h5] at h
              simp only [Prod.mk.injEq] at h
              obtain ⟨rfl, e1, e2, rfl⟩ := h
              have e3 := tw_of_dw_nil _ h5.2
              refine .inr (.inl ⟨hlt, (hacc bP 4).2 ⟨h4, by rw [← e3]; exact h5.1, h5.2⟩, rfl, ?_, ?_, rfl⟩)
              · rw [hM']; exact ba_ext (by rw [← e1])
              · rw [hrest]; exact ba_ext (by rw [← e2, e3])
            · rw [if_neg h5] at h
              have hz := zero_of h
              have ha : aL.isPrefixOf (dw t) = false := by
                rw [Bool.eq_false_iff]; intro h6; have := ab _ h6; rw [h4] at this; cases this
              refine .inr (.inr (.inr ⟨hlt, fun h7 => ?_, fun h7 => ?_, hz.1.symm, hz.2.1.symm, hz.2.2.1.symm, hz.2.2.2.symm⟩))
              · have := (hacc bP 4).1 h7
                exact h5 ⟨by rw [tw_of_dw_nil _ this.2.2]; exact this.2.1, this.2.2⟩
              · have := ((hacc aP 5).1 h7).1
                rw [show aP.data.toList = aL from rfl, ha] at this
                cases this
          · rw [if_neg h4] at h
            have nb : ¬ Acc s bP 4 ((tw t).length + 1) := fun h7 => h4 ((hacc bP 4).1 h7).1
            by_cases h6 : aL.isPrefixOf (dw t) = true
            · rw [if_pos h6] at h
              unfold tailR at h
              by_cases h5 : tw ((dw t).drop 5) ≠ [] ∧ dw ((dw t).drop 5) = []
              · rw [if_pos h5] at h
                simp only [Prod.mk.injEq] at h
                obtain ⟨rfl, e1, e2, rfl⟩ := h
                have e3 := tw_of_dw_nil _ h5.2
                refine .inr (.inr (.inl ⟨hlt, nb, (hacc aP 5).2 ⟨h6, by rw [← e3]; exact h5.1, h5.2⟩, rfl, ?_, ?_, rfl⟩))
                · rw [hM']; exact ba_ext (by rw [← e1])
                · rw [hrest]; exact ba_ext (by rw [← e2, e3])
              · rw [if_neg h5] at h
                have hz := zero_of h
                refine .inr (.inr (.inr ⟨hlt, nb, fun h7 => ?_, hz.1.symm, hz.2.1.symm, hz.2.2.1.symm, hz.2.2.2.symm⟩))
                have := (hacc aP 5).1 h7
                exact h5 ⟨by rw [tw_of_dw_nil _ this.2.2]; exact this.2.1, this.2.2⟩
            · rw [if_neg h6] at h
              have hz := zero_of h
              exact .inr (.inr (.inr ⟨hlt, nb, fun h7 => h6 ((hacc aP 5).1 h7).1, hz.1.symm, hz.2.1.symm, hz.2.2.1.symm, hz.2.2.2.symm⟩))
    · have hz : parseL s.data.toList = zeroR := by
        obtain ⟨t, ht⟩ := cons_of_size s (by omega)
        unfold parseL
        rw [if_neg]
        rw [ht]
        intro h5
        simp [List.isPrefixOf] at h5
        simp [← h5] at h0
      rw [hz] at h
      obtain ⟨rfl, rfl, rfl, rfl⟩ := zero_of h
      exact m_nov s h2 h0 w
  · have hz : parseL s.data.toList = zeroR := by
      unfold parseL
      by_cases h1 : [118].isPrefixOf s.data.toList = true
      · rw [if_pos h1]
        have : s.data.toList.drop 1 = [] := List.drop_of_length_le (by rw [size_data]; omega)
        rw [this]
        rfl
      · rw [if_neg h1]
    rw [hz] at h
    obtain ⟨rfl, rfl, rfl, rfl⟩ := zero_of h
    exact m_short s (by omega) w
end Go.Proofs.Qxb6619284a.Lk
