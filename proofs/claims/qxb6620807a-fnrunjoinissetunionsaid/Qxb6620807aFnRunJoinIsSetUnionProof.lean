/-
  The proof of 'Rows.FnRunJoinIsSetUnionSaid'. The frame is the guide's shell; the walks are ours.
-/
import Derived.Test.Qxb6620807aRows
import Derived.WalkKit
import Derived.ProofKit
import Derived.OpenShut
import Derived.ShutString
import Derived.ChangeOld
import Derived.Below
import Derived.Test.Qxb6620807aLaw
import Derived.Test.Qxb6620807aJoinNo
import Derived.Test.Qxb6620807aJoinSw
namespace Go.Proofs.Qxb6620807a.fnRunJoinIsSetUnion
open Go.ChangeShapes Go.WideShapes Go.ChangeAt Go.RowKit
open Go.ChangeMaps (open_string shut_string)
open Wk
set_option linter.unusedVariables false

theorem own : ownKnob Try.prog.godebug = none := by kernel_rfl
theorem laidOut : laidOutB Try.prog = true := by kernel_rfl

/-- WHAT THE WALK IS TOLD OF A SLICE OF INTEGERS THAT CAME IN: it is nil; or it leads to a row of 'cap' cells, the numbers 'zs' (the first 'len' are its elements, the rest its spare room), each fitting its kind. -/
def IsRow (k : IntKind) (w : World) (a : Option Addr) (len cap : Nat) (zs : List Int) : Prop :=
  (a = none ∧ len = 0 ∧ cap = 0 ∧ zs = []) ∨
  ∃ x, a = some x ∧ len ≤ cap ∧ cap ≤ maxLen ∧ zs.length = cap ∧ (∀ i, i < zs.length → w.cell? (x.add i) = some (.int k (zs.getD i 0))) ∧ ∀ n ∈ zs, (Lit.int k n).wf = true


/-! ### From the row's words to the walk's -/
theorem row_u64 {w : World} {a : Option Addr} {len cap : Nat} {zs : List Int} (h : IsRow .u64 w a len cap zs) : U64 (fun i => zs.getD i 0) := by
  intro i
  rcases h with ⟨_, _, _, rfl⟩ | ⟨x, _, _, _, _, _, hw⟩
  · simp
  · by_cases hi : i < zs.length
    · have e : zs.getD i 0 = zs[i] := by simp [hi]
      show 0 ≤ zs.getD i 0 ∧ zs.getD i 0 ≤ 18446744073709551615
      rw [e]
      exact bounds_u64 (hw _ (List.getElem_mem hi))
    · have e : zs.getD i 0 = 0 := by simp [List.getElem?_eq_none (Nat.le_of_not_lt hi)]
      show 0 ≤ zs.getD i 0 ∧ zs.getD i 0 ≤ 18446744073709551615
      rw [e]; omega
theorem row_len {w : World} {a : Option Addr} {len cap : Nat} {zs : List Int} (h : IsRow .u64 w a len cap zs) : len ≤ cap ∧ len ≤ maxLen ∧ (a = none → len = 0) := by
  rcases h with ⟨_, rfl, rfl, _⟩ | ⟨x, rfl, h1, h2, _⟩
  · exact ⟨Nat.le_refl _, Nat.zero_le _, fun _ => rfl⟩
  · exact ⟨h1, Nat.le_trans h1 h2, fun h => by cases h⟩
theorem row_rd {w : World} {a : Option Addr} {len cap : Nat} {zs : List Int} (h : IsRow .u64 w a len cap zs) : Rd w w.heap.size a len (fun i => zs.getD i 0) := by
  intro hL
  rcases h with ⟨_, rfl, _⟩ | ⟨x, rfl, h1, h2, h3, h4, _⟩
  · omega
  · obtain ⟨b, o, rfl, hc⟩ := ints_at h4 (by omega)
    refine ⟨b, o, rfl, ?_, fun i hi => hc i (by omega)⟩
    have h0 := hc 0 (by omega)
    refine Nat.lt_of_not_le fun hge => ?_
    have : w.heap[b]? = none := Array.getElem?_eq_none hge
    simp [World.cell?, this] at h0

theorem zpost_swap {w : World} {s : ByteArray} {H G : Int → Prop} {N M : Nat} {e : Ending} {w' : World} (hH : ∀ x, H x ↔ G x) (hN : N = M) (h : ZPost w s H N e w') : ZPost w s G M e w' := by
  obtain ⟨U, L, f, ad, cp, h1, h2, h3, h4, h5, h6, h7, h8⟩ := h
  exact ⟨U, L, f, ad, cp, h1, h2, h3, h4, by omega, h6, fun x => (h7 x).trans (hH x), h8⟩

/-- ZZRunJoin, whichever of the two unbroken runs is the longer -/
theorem join_any (s : ByteArray) (u v : Int) (la lb : Nat) (fa fb : Nat → Int) (hu : 0 ≤ u ∧ u ≤ 18446744073709551615) (hv : 0 ≤ v ∧ v ≤ 18446744073709551615) (hla : la ≤ 1048576) (hlb : lb ≤ 1048576) (hza : U64 fa) (hzb : U64 fb) (hva : Va u la fa) (hvb : Va v lb fb)
    (w : World) (a' b' : Option Addr) (ca' cb' : Nat) (hca : la ≤ ca') (hcb : lb ≤ cb') (hRa : Rd w w.heap.size a' la fa) (hRb : Rd w w.heap.size b' lb fb) :
    Calls Try.prog 26 #[.string s, .int .u64 u, .slice a' la ca', .string s, .int .u64 v, .slice b' lb cb'] w fun e w' => ZPost w s (fun x => Has u la fa x ∨ Has v lb fb x) (la + lb) e w' := by
  by_cases h : u < v
  · refine (zz_join s u v a' b' la ca' lb cb' v u lb la fb fa w (join_sw s v u b' a' lb cb' la ca' fb fa w h hv hu hlb hla hcb hca hzb hza hvb hva hRb hRa)).mono ?_
    intro e w' hp
    exact zpost_swap (fun x => or_comm) (Nat.add_comm _ _) hp
  · exact zz_join s u v a' b' la ca' lb cb' u v la lb fa fb w (join_no s u v a' b' la ca' lb cb' fa fb w h hu hv hla hlb hca hcb hza hzb hva hvb hRa hRb)

theorem str_eq {s t : ByteArray} (h : ¬ (s.toList == t.toList) = false) : s = t := by
  have h1 : s.toList = t.toList := by
    cases hb : (s.toList == t.toList)
    · exact absurd hb h
    · exact beq_iff_eq.1 hb
  rw [ByteArray.toList_eq, ByteArray.toList_eq] at h1
  obtain ⟨⟨x⟩⟩ := s
  obtain ⟨⟨y⟩⟩ := t
  simp at h1
  rw [h1]

/-! ### STEP 1: THE WALK: the Go text returns true, AND WRITES NOTHING THAT WAS THERE: 'Below w.heap.size w w'' (Derived/Below.lean: '.refl', '.alloc', '.drew', '.setCell' at a new block, '.trans'). Open each 'IsRow' by 'rcases' AHEAD of 'go_enter'; part every test ahead of the walk. -/
theorem walk (a0 : ByteArray) (a1 : Int) (a2 : Option Addr) (len2 cap2 : Nat) (z2 : List Int) (a3 : ByteArray) (a4 : Int) (a5 : Option Addr) (len5 cap5 : Nat) (z5 : List Int) (w : World) (w0 : a0.size ≤ maxLen) (w1 : (Lit.int .u64 a1).wf = true) (w2 : IsRow .u64 w a2 len2 cap2 z2) (w3 : a3.size ≤ maxLen) (w4 : (Lit.int .u64 a4).wf = true) (w5 : IsRow .u64 w a5 len5 cap5 z5) :
    Calls Try.prog 7 #[.string a0, .int .u64 a1, .slice a2 len2 cap2, .string a3, .int .u64 a4, .slice a5 len5 cap5] w fun e w' => e = .returned (.bool true) ∧ Below w.heap.size w w' := by
  have hu := bounds_u64 w1
  have hv := bounds_u64 w4
  obtain ⟨l2a, l2b, l2c⟩ := row_len w2
  obtain ⟨l5a, l5b, l5c⟩ := row_len w5
  have z2' := row_u64 w2
  have z5' := row_u64 w5
  have r2' := row_rd w2
  have r5' := row_rd w5
  by_cases hf : a0.size + len2 + a3.size + len5 ≤ 1048576
  · by_cases hl2 : len2 ≤ 65536
    · by_cases hl5 : len5 ≤ 65536
      · by_cases hsum : a0.size + a3.size + 8 * len2 + 8 * len5 ≤ 1048576
        · by_cases hne : (a0.toList == a3.toList) = false
          · exact law_actor a0 a3 a1 a4 a2 a5 len2 cap2 len5 cap5 w hf hl2 hl5 hsum hne
          · obtain rfl := str_eq hne
            by_cases hva : Va a1 len2 (fun i => z2.getD i 0)
            · by_cases hvb : Va a4 len5 (fun i => z5.getD i 0)
              · exact law_main a0 a1 a4 a2 a5 len2 cap2 len5 cap5 _ _ w hf hl2 hl5 hsum hu hv z2' z5' r2' r5' hva hvb l2c l5c (fun w a' b' ca' cb' h1 h2 h3 h4 => join_any a0 a1 a4 len2 len5 _ _ hu hv (by omega) (by omega) z2' z5' hva hvb w a' b' ca' cb' h1 h2 h3 h4)
              · exact law_bad2 a0 a1 a4 a2 a5 len2 cap2 len5 cap5 _ _ w hf hl2 hl5 hsum hu hv z2' z5' r2' r5' hva hvb
            · exact law_bad1 a0 a1 a4 a2 a5 len2 cap2 len5 cap5 _ (fun i => z5.getD i 0) w hf hl2 hl5 hsum hu z2' r2' hva
        · exact law_sum a0 a3 a1 a4 a2 a5 len2 cap2 len5 cap5 w hf hl2 hl5 (by omega)
      · exact law_rows a0 a3 a1 a4 a2 a5 len2 cap2 len5 cap5 w hf (by omega)
    · exact law_rows a0 a3 a1 a4 a2 a5 len2 cap2 len5 cap5 w hf (by omega)
  · exact law_far a0 a3 a1 a4 a2 a5 len2 cap2 len5 cap5 w w0 w3 l2b l5b (by simp [fits4]; omega)

/-! ### THE ROW's STEP: WRITTEN OUT: LEAVE IT -/
set_option maxRecDepth 100000 in
theorem lifted (os : Os) (started : os.Started) (H : Type) (enc : TypeId × Value → H) :
    ReturnsInHanded {} Try.checked os 7 .any (Rows.fnRunJoinIsSetUnionSpec.pre6 enc Try.prog Try.f7 Rows.fnRunJoinIsSetUnionRow.domain false) (Rows.fnRunJoinIsSetUnionSpec.post enc Try.prog Try.f7 false true false false) := by
  refine returnsInHanded_of_change (C := Try.checked) own started (by kernel_rfl) Try.func7
    (ChangeSpec.witness6 (enc := enc) (C := Try.checked) false ⟨#[], #[.string ByteArray.empty, .int .u64 0, .slice none 0 0, .string ByteArray.empty, .int .u64 0, .slice none 0 0], []⟩ 8 (by kernel_rfl) (by kernel_rfl) (by kernel_rfl) (by kernel_rfl)) ?_
  intro W base args ds gs before hval0 hW hcnd _
  have hval : ∀ (j : Nat) t v, Try.f7.params[j]? = some t → args[j]? = some v → Value.okWide Try.prog W .any base t v := hval0
  have hW' := hW
  obtain ⟨p, q, hA0, hV, rfl, hfz, hnd⟩ := hW
  have hA : DataW.TrodAll enc Try.prog W 0 (fun _ => true) true Try.f7.params.toList args.toList ds p := hA0
  rw [Try.params7] at hA hval
  obtain ⟨v0, vs0, d0, ds0, p0, q0, hargs, rfl, rfl, h0, r0⟩ := trodAll_cons hA
  obtain ⟨v1, vs1, d1, ds1, p1, q1, rfl, rfl, rfl, h1, r1⟩ := trodAll_cons r0
  obtain ⟨v2, vs2, d2, ds2, p2, q2, rfl, rfl, rfl, h2, r2⟩ := trodAll_cons r1
  obtain ⟨v3, vs3, d3, ds3, p3, q3, rfl, rfl, rfl, h3, r3⟩ := trodAll_cons r2
  obtain ⟨v4, vs4, d4, ds4, p4, q4, rfl, rfl, rfl, h4, r4⟩ := trodAll_cons r3
  obtain ⟨v5, vs5, d5, ds5, p5, q5, rfl, rfl, rfl, h5, r5⟩ := trodAll_cons r4
  obtain ⟨rfl, rfl, rfl⟩ := trodAll_nil r5
  obtain rfl : args = #[v0, v1, v2, v3, v4, v5] := by cases args; simp_all
  obtain ⟨rfl, rfl⟩ := trodVars_none hV
  obtain ⟨a0, rfl, rfl, rfl, w0⟩ := open_string Try.underlying9 (hval 0 9 v0 rfl rfl) h0
  obtain ⟨a1, rfl, rfl, rfl, w1⟩ := open_int Try.underlying41 (hval 1 41 v1 rfl rfl) h1
  obtain ⟨a2, len2, cap2, rfl⟩ := okWide_slice Try.underlying23 (hval 2 23 v2 rfl rfl)
  have k2 := h2
  have lt2 : ∀ x ∈ p2, x.block < W.heap.size := by obtain ⟨m, hm⟩ := k2; exact DataW.trod_lt m _ _ _ hm
  obtain ⟨z2, w2⟩ : ∃ zs, IsRow .u64 W a2 len2 cap2 zs := by
    obtain ⟨fuel, hf⟩ := h2
    rcases open_ints Try.underlying23 Try.underlying41 (by kernel_rfl) hf with ⟨hcs, _⟩ | ⟨x, l, c, zs, hcs, _, hl, hm, hz, _, hcell, hwz⟩
    · simp [Value.cells] at hcs
      obtain ⟨rfl, rfl, rfl⟩ := hcs
      exact ⟨[], .inl ⟨rfl, rfl, rfl, rfl⟩⟩
    · simp [Value.cells] at hcs
      obtain ⟨rfl, rfl, rfl⟩ := hcs
      exact ⟨zs, .inr ⟨_, rfl, hl, hm, by simpa using hz, hcell, hwz⟩⟩
  obtain ⟨a3, rfl, rfl, rfl, w3⟩ := open_string Try.underlying9 (hval 3 9 v3 rfl rfl) h3
  obtain ⟨a4, rfl, rfl, rfl, w4⟩ := open_int Try.underlying41 (hval 4 41 v4 rfl rfl) h4
  obtain ⟨a5, len5, cap5, rfl⟩ := okWide_slice Try.underlying23 (hval 5 23 v5 rfl rfl)
  have k5 := h5
  have lt5 : ∀ x ∈ p5, x.block < W.heap.size := by obtain ⟨m, hm⟩ := k5; exact DataW.trod_lt m _ _ _ hm
  obtain ⟨z5, w5⟩ : ∃ zs, IsRow .u64 W a5 len5 cap5 zs := by
    obtain ⟨fuel, hf⟩ := h5
    rcases open_ints Try.underlying23 Try.underlying41 (by kernel_rfl) hf with ⟨hcs, _⟩ | ⟨x, l, c, zs, hcs, _, hl, hm, hz, _, hcell, hwz⟩
    · simp [Value.cells] at hcs
      obtain ⟨rfl, rfl, rfl⟩ := hcs
      exact ⟨[], .inl ⟨rfl, rfl, rfl, rfl⟩⟩
    · simp [Value.cells] at hcs
      obtain ⟨rfl, rfl, rfl⟩ := hcs
      exact ⟨zs, .inr ⟨_, rfl, hl, hm, by simpa using hz, hcell, hwz⟩⟩
  clear hA0 hval0
  refine (walk a0 a1 a2 len2 cap2 z2 a3 a4 a5 len5 cap5 z5 W w0 w1 w2 w3 w4 w5).mono fun e W' ⟨he, bel⟩ => ?_
  subst he
  exact ⟨_, rfl, _, _, _, [], _, [], hW', trodAll_mk1 (shut_bool Try.underlying4 _), (trodAll_cons_mk (shut_string Try.underlying9 w0) (trodAll_cons_mk (shut_int Try.underlying41 w1) (trodAll_cons_mk (Below.trod laidOut (by kernel_rfl) (of_decide_eq_true (by kernel_rfl)) k2 bel lt2) (trodAll_cons_mk (shut_string Try.underlying9 w3) (trodAll_cons_mk (shut_int Try.underlying41 w4) (trodAll_cons_mk (Below.trod laidOut (by kernel_rfl) (of_decide_eq_true (by kernel_rfl)) k5 bel lt5) trodAll_mk0)))))), rfl, bel.frame _, fun h => by cases h⟩

theorem over : Rows.fnRunJoinIsSetUnionRow.holds Try.pinned (OpenSpec.ofChange Rows.fnRunJoinIsSetUnionSpec) :=
  OpenClaim.holds_of_wide 7 Try.f7 rfl rfl rfl rfl rfl rfl rfl ⟨rfl, rfl, rfl, rfl, rfl⟩ rfl rfl rfl rfl rfl (by kernel_rfl) Try.func7 (by kernel_rfl)
    (of_decide_eq_true (by kernel_rfl)) (by unfold Func.isWrapper; first | (rw [if_pos (by decide +kernel)]; kernel_rfl) | (rw [if_neg (by decide +kernel)]; exact ⟨rfl, rfl⟩))
    (fun os started H enc _ => lifted os started H enc)

/-- ████ THE STATEMENT ████ -/
theorem proved : Rows.FnRunJoinIsSetUnionSaid := over
end Go.Proofs.Qxb6620807a.fnRunJoinIsSetUnion
