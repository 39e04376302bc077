/-
  The plain law of parse: what it computes on lists of bytes, and how it grows by digits.
-/
import Derived.Test.Qxb6619284aPlain
namespace Go.Proofs.Qxb6619284a.Pl

abbrev R := Int × List UInt8 × List UInt8 × Bool
def bL : List UInt8 := [98, 101, 116, 97]
def aL : List UInt8 := [97, 108, 112, 104, 97]
def zeroR : R := (0, [], [], false)
def tailR (T : Int) (M q : List UInt8) : R := if tw q ≠ [] ∧ dw q = [] then (T, M, tw q, true) else zeroR
def restR (M r : List UInt8) : R :=
  if M = [] then zeroR else if r = [] then (2, M, [], true) else if bL.isPrefixOf r = true then tailR 1 M (r.drop 4) else if aL.isPrefixOf r = true then tailR 0 M (r.drop 5) else zeroR
def parseL (l : List UInt8) : R := if [118].isPrefixOf l = true then restR (tw (l.drop 1)) (dw (l.drop 1)) else zeroR

theorem tw_of_dw_nil (l : List UInt8) (h : dw l = []) : tw l = l := by
  have := tw_dw l; rw [h, List.append_nil] at this; exact this
theorem dw_nil_iff (l : List UInt8) : dw l = [] ↔ allD l = true := by
  constructor
  · intro h; have := tw_all l; rwa [tw_of_dw_nil l h] at this
  · intro h
    unfold dw allD at *
    induction l with
    | nil => rfl
    | cons c t ih =>
      rw [List.all_cons, Bool.and_eq_true] at h
      rw [List.dropWhile_cons, if_pos h.1]
      exact ih h.2
theorem pre_append (p r b : List UInt8) (h : p.isPrefixOf r = true) : p.isPrefixOf (r ++ b) = true :=
  List.isPrefixOf_iff_prefix.2 ((List.isPrefixOf_iff_prefix.1 h).trans (List.prefix_append _ _))
theorem drop_app (r b p : List UInt8) (n : Nat) (h : p.isPrefixOf r = true) (hn : p.length = n) : (r ++ b).drop n = r.drop n ++ b := by
  have := (List.isPrefixOf_iff_prefix.1 h).length_le
  rw [List.drop_append_of_le_length (by omega)]
theorem ab (r : List UInt8) (h : aL.isPrefixOf r = true) : bL.isPrefixOf r = false := by
  cases r with
  | nil => rfl
  | cons c t =>
    simp [aL, bL, List.isPrefixOf] at h ⊢
    intro hc
    have := h.1
    rw [← hc] at this
    exact absurd this (by decide)

theorem tail_ok (T : Int) (M q : List UInt8) (t : Int) (x y : List UInt8) (h : tailR T M q = (t, x, y, true)) : T = t ∧ M = x ∧ q = y ∧ q ≠ [] ∧ dw q = [] := by
  unfold tailR at h
  split at h
  · rename_i hc
    cases h
    have e := tw_of_dw_nil q hc.2
    exact ⟨rfl, rfl, e.symm, by rw [← e]; exact hc.1, hc.2⟩
  · simp [zeroR] at h
theorem tail_grow (T : Int) (M q b : List UInt8) (hq : q ≠ []) (hd : dw q = []) :
    tailR T M (q ++ b) = if allD b = true then (T, M, q ++ b, true) else zeroR := by
  unfold tailR
  rw [tw_append, dw_append, if_pos hd, if_pos hd, tw_of_dw_nil q hd]
  by_cases h : allD b = true
  · have hb := (dw_nil_iff b).2 h
    rw [if_pos h, if_pos ⟨by simp [hq], hb⟩, tw_of_dw_nil b hb]
  · have hb : ¬ dw b = [] := fun h' => h ((dw_nil_iff b).1 h')
    rw [if_neg h, if_neg (fun h' => hb h'.2)]

theorem rest_ok (M r : List UInt8) (T : Int) (x y : List UInt8) (h : restR M r = (T, x, y, true)) :
    M ≠ [] ∧ M = x ∧ ((r = [] ∧ T = 2 ∧ y = []) ∨ (r ≠ [] ∧ T = 1 ∧ bL.isPrefixOf r = true ∧ r.drop 4 = y ∧ y ≠ [] ∧ dw y = []) ∨
      (r ≠ [] ∧ T = 0 ∧ aL.isPrefixOf r = true ∧ r.drop 5 = y ∧ y ≠ [] ∧ dw y = [])) := by
  unfold restR at h
  split at h
  · simp [zeroR] at h
  · rename_i hM
    split at h
    · cases h; exact ⟨hM, rfl, .inl ⟨by assumption, rfl, rfl⟩⟩
    · rename_i hr
      split at h
      · rename_i hb
        obtain ⟨e1, e2, e3, e4, e5⟩ := tail_ok _ _ _ _ _ _ h
        exact ⟨hM, e2, .inr (.inl ⟨hr, e1.symm, hb, e3, by rw [← e3]; exact e4, by rw [← e3]; exact e5⟩)⟩
      · split at h
        · rename_i ha
          obtain ⟨e1, e2, e3, e4, e5⟩ := tail_ok _ _ _ _ _ _ h
          exact ⟨hM, e2, .inr (.inr ⟨hr, e1.symm, ha, e3, by rw [← e3]; exact e4, by rw [← e3]; exact e5⟩)⟩
        · simp [zeroR] at h

theorem parse_ok (l : List UInt8) (T : Int) (x y : List UInt8) (h : parseL l = (T, x, y, true)) :
    [118].isPrefixOf l = true ∧ restR (tw (l.drop 1)) (dw (l.drop 1)) = (T, x, y, true) := by
  unfold parseL at h
  split at h
  · exact ⟨by assumption, h⟩
  · simp [zeroR] at h

theorem parse_app (l b : List UInt8) (h : [118].isPrefixOf l = true) : parseL (l ++ b) = restR (tw (l.drop 1 ++ b)) (dw (l.drop 1 ++ b)) := by
  unfold parseL
  rw [if_pos (pre_append _ _ _ h), drop_app l b [118] 1 h rfl]

theorem rest_app (M r b : List UInt8) (hM : M ≠ []) (hr : r ≠ []) (p : List UInt8) (T : Int) (n : Nat) (hp : (p = bL ∧ T = 1 ∧ n = 4) ∨ (p = aL ∧ T = 0 ∧ n = 5)) (h : p.isPrefixOf r = true) :
    restR M (r ++ b) = tailR T M (r.drop n ++ b) := by
  unfold restR
  rw [if_neg hM, if_neg (by simp [hr])]
  rcases hp with ⟨rfl, rfl, rfl⟩ | ⟨rfl, rfl, rfl⟩
  · rw [if_pos (pre_append _ _ _ h), drop_app r b bL 4 h rfl]
  · have h1 := ab _ (pre_append _ _ b h)
    rw [h1, if_neg (by simp), if_pos (pre_append _ _ _ h), drop_app r b aL 5 h rfl]

/-- GA grows by digits. -/
theorem grow_ga (l b x y : List UInt8) (h : parseL l = (2, x, y, true)) (hb : allD b = true) : parseL (l ++ b) = (2, x ++ b, [], true) := by
  obtain ⟨h1, h2⟩ := parse_ok _ _ _ _ h
  obtain ⟨hM, hx, h3⟩ := rest_ok _ _ _ _ _ h2
  rcases h3 with ⟨hr, _, _⟩ | ⟨_, hT, _⟩ | ⟨_, hT, _⟩
  · rw [parse_app _ _ h1, tw_append, dw_append, if_pos hr, if_pos hr, (dw_nil_iff b).2 hb, tw_of_dw_nil b ((dw_nil_iff b).2 hb), hx]
    unfold restR
    rw [hx] at hM
    rw [if_neg (by simp [hM]), if_pos rfl]
  · exact absurd hT (by decide)
  · exact absurd hT (by decide)

theorem grow_pre (l b x y : List UInt8) (T : Int) (hT : T ≠ 2) (h : parseL l = (T, x, y, true)) :
    parseL (l ++ b) = if allD b = true then (T, x, y ++ b, true) else zeroR := by
  obtain ⟨h1, h2⟩ := parse_ok _ _ _ _ h
  obtain ⟨hM, hx, h3⟩ := rest_ok _ _ _ _ _ h2
  rcases h3 with ⟨hr, h4, _⟩ | ⟨hr, h4, hp, hy, hy1, hy2⟩ | ⟨hr, h4, hp, hy, hy1, hy2⟩
  · exact absurd h4 hT
  · rw [parse_app _ _ h1, tw_append, dw_append, if_neg hr, if_neg hr, rest_app _ _ _ hM hr bL 1 4 (.inl ⟨rfl, rfl, rfl⟩) hp, hy, tail_grow _ _ _ _ hy1 hy2, hx, h4]
  · rw [parse_app _ _ h1, tw_append, dw_append, if_neg hr, if_neg hr, rest_app _ _ _ hM hr aL 0 5 (.inr ⟨rfl, rfl, rfl⟩) hp, hy, tail_grow _ _ _ _ hy1 hy2, hx, h4]

theorem parse_track (l x y : List UInt8) (T : Int) (h : parseL l = (T, x, y, true)) : T = 0 ∨ T = 1 ∨ T = 2 := by
  obtain ⟨h1, h2⟩ := parse_ok _ _ _ _ h
  obtain ⟨hM, hx, h3⟩ := rest_ok _ _ _ _ _ h2
  rcases h3 with ⟨hr, h4, _⟩ | ⟨hr, h4, hp, hy, hy1, hy2⟩ | ⟨hr, h4, hp, hy, hy1, hy2⟩
  · exact .inr (.inr h4)
  · exact .inr (.inl h4)
  · exact .inl h4
theorem parse_ga_min (l x y : List UInt8) (h : parseL l = (2, x, y, true)) : y = [] := by
  obtain ⟨h1, h2⟩ := parse_ok _ _ _ _ h
  obtain ⟨hM, hx, h3⟩ := rest_ok _ _ _ _ _ h2
  rcases h3 with ⟨hr, h4, h5⟩ | ⟨hr, h4, hp, hy, hy1, hy2⟩ | ⟨hr, h4, hp, hy, hy1, hy2⟩
  · exact h5
  · exact absurd h4 (by decide)
  · exact absurd h4 (by decide)
theorem tail_no (T : Int) (M q : List UInt8) (t : Int) (x y : List UInt8) (h : tailR T M q = (t, x, y, false)) : t = 0 ∧ x = [] ∧ y = [] := by
  unfold tailR at h
  split at h
  · simp at h
  · simp [zeroR] at h; exact ⟨h.1.symm, h.2.1, h.2.2⟩
theorem parse_no (l x y : List UInt8) (T : Int) (h : parseL l = (T, x, y, false)) : T = 0 ∧ x = [] ∧ y = [] := by
  unfold parseL at h
  split at h
  · unfold restR at h
    split at h
    · simp [zeroR] at h; exact ⟨h.1.symm, h.2.1, h.2.2⟩
    · split at h
      · simp at h
      · split at h
        · exact tail_no _ _ _ _ _ _ h
        · split at h
          · exact tail_no _ _ _ _ _ _ h
          · simp [zeroR] at h; exact ⟨h.1.symm, h.2.1, h.2.2⟩
  · simp [zeroR] at h; exact ⟨h.1.symm, h.2.1, h.2.2⟩
end Go.Proofs.Qxb6619284a.Pl
