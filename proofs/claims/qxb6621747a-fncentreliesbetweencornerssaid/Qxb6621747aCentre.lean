/-
  The walks of Dims, centre and ZZCentre.
-/
import Derived.Test.Qxb6621747aWalks
namespace Go.Proofs.Qxb6621747a.Wk
open Go.RowKit
open Fp
set_option linter.unusedVariables false

/-- What a walk is told of a slice of L float64: where it is not empty its cells lie below block B, the words 'f'. -/
def Rd (w : World) (B : Nat) (ad : Option Addr) (L : Nat) (f : Nat → Nat) : Prop :=
  0 < L → ∃ b o, ad = some ⟨b, o, none⟩ ∧ b < B ∧ ∀ i, i < L → w.cell? ⟨b, o + i, none⟩ = some (.float .f64 (f i))
def W64 (f : Nat → Nat) : Prop := ∀ i, f i < 18446744073709551616

/-- the word of a NaN that the tape gives -/
def nanAt (w : World) (x y : Nat) : Nat := (Question.nanBits .f64 x y).cut (w.tape w.drawn (.nanBits .f64 x y))
theorem nan_at (w : World) (x y : Nat) : Nan (nanAt w x y) ∧ nanAt w x y < 18446744073709551616 := by
  unfold nanAt
  simp only [Question.cut]
  generalize w.tape w.drawn (.nanBits .f64 x y) = t
  have h1 : t % 2 < 2 := Nat.mod_lt _ (by omega)
  have h2 : t / 2 % (2 ^ 52 - 1) < 2 ^ 52 - 1 := Nat.mod_lt _ (by omega)
  generalize t % 2 = u at *
  generalize t / 2 % (2 ^ 52 - 1) = r at *
  unfold Nan rg INF
  have h3 : u = 0 ∨ u = 1 := by omega
  rcases h3 with rfl | rfl <;> omega
theorem ret_int {a b : Int} (h : a = b) : Ending.returned (.int .i64 a) = .returned (.int .i64 b) := by rw [h]
theorem run_nan (op : BinOp) (x y : Nat) (h : floatBits op .f64 x y = none) (hop : op = .add ∨ op = .quo) (w : World) : (binOp op 26 (.float .f64 x) (.float .f64 y)).run Try.prog w = .ok (.float .f64 (nanAt w x y)) w.drew := by
  unfold floatBits at h
  rcases hop with rfl | rfl
  · simp only at h
    simp [binOp, Op.floatArith, h, nanAt, Question.forced]
  · simp only at h
    simp [binOp, Op.floatArith, h, nanAt, Question.forced]

theorem Try.info26 : (Try.prog.info? 26).map (fun i => (i.zero, i.size, i.bytes)) = some (some (.float .f64 0), 1, 8) := by kernel_rfl
theorem make_f (n : Nat) (h : n ≤ 2097152) (w : World) :
    (Instr.makeSlice 22 (.int .i64 (n : Int)) (.int .i64 (n : Int))).run Try.prog w = .ok (.slice (some ⟨w.heap.size, 0, none⟩) n n) (w.alloc (.cells (madeCells #[.float .f64 0] n) 26)) :=
  run_make_row' (P := Try.prog) 22 26 (.float .f64 0) 8 Try.underlying22 Try.info26 rfl .i64 .i64 n (by omega) (by omega) w

theorem dims (a b : Option Addr) (la ca lb cb : Nat) (w : World) (n : Nat) (hn : Hid (n = if la = lb then la else 0)) (hla : la ≤ 1048576) (hlb : lb ≤ 1048576) :
    Calls Try.prog 13 #[.agg #[.slice a la ca, .slice b lb cb]] w fun e w' => e = .returned (.int .i64 (n : Int)) ∧ w' = w.alloc (.cells #[.slice a la ca, .slice b lb cb] 31) := by
  by_cases h : la = lb
  · have h1 : ((la : Int) != (lb : Int)) = false := by rw [h]; simp
    have e : Hid (n = la) := by rw [hn.out, if_pos h]; exact rfl
    have H : Hid (la = lb) := h
    clear h
    go_enter Try.func13, Try.ntmps13
    go_wp2
    go_ret
    exact ⟨ret_int (by rw [e.out]), rfl⟩
  · have h1 : ((la : Int) != (lb : Int)) = true := by rw [bne_iff_ne]; omega
    have e : Hid (n = 0) := by rw [hn.out, if_neg h]; exact rfl
    clear h
    go_enter Try.func13, Try.ntmps13
    go_wp2
    go_ret
    exact ⟨ret_int (by rw [e.out]; rfl), rfl⟩

/-- what the row of the centre holds after k rounds -/
def outF (g : Nat → Nat) (k i : Nat) : Value := .float .f64 (if i < k then g i else 0)
def updN (g : Nat → Nat) (k m i : Nat) : Nat := if i = k then m else g i
theorem outF_step (g : Nat → Nat) (k m i : Nat) : (if i = k then Value.float .f64 m else outF g k i) = outF (updN g k m) (k + 1) i := by
  unfold outF updN
  by_cases h : i = k
  · subst h; simp
  · by_cases h2 : i < k
    · have : i < k + 1 := by omega
      simp [h, h2, this]
    · have : ¬ i < k + 1 := by omega
      simp [h, h2, this]
/-- the memory of the call -/
structure CInv (w : World) (va vb : Value) (n k : Nat) (g : Nat → Nat) (wr : World) : Prop where
  c0 : wr.cell? ⟨w.heap.size, 0, none⟩ = some va
  c1 : wr.cell? ⟨w.heap.size, 1, none⟩ = some vb
  row : wr.rowIs (w.heap.size + 1 + 1) 26 n (outF g k)
  bel : Below w.heap.size w wr
  size : wr.heap.size = w.heap.size + 3
theorem CInv.step {w : World} {va vb : Value} {n k : Nat} {g : Nat → Nat} {wr : World} (h : CInv w va vb n k g wr) (m : Nat) : CInv w va vb n (k + 1) (updN g k m) (wr.setCell ⟨w.heap.size + 1 + 1, k, none⟩ (.float .f64 m)) := by
  refine ⟨?_, ?_, (h.row.set k (.float .f64 m)).congr (fun i _ => outF_step g k m i), h.bel.setCell (by simp only []; omega) _, by simp [World.setCell]; exact h.size⟩
  · rw [World.cell?_of_block (w := wr) (Below.heap_setCell _ _ _ _ (by simp only []; omega))]; exact h.c0
  · rw [World.cell?_of_block (w := wr) (Below.heap_setCell _ _ _ _ (by simp only []; omega))]; exact h.c1
theorem CInv.drew {w : World} {va vb : Value} {n k : Nat} {g : Nat → Nat} {wr : World} (h : CInv w va vb n k g wr) : CInv w va vb n k g wr.drew := ⟨h.c0, h.c1, h.row, h.bel.drew, h.size⟩

/-- what ZZCentre leaves -/
def CPost (w : World) (n : Nat) (fa fb : Nat → Nat) (e : Ending) (w' : World) : Prop :=
  ∃ (g : Nat → Nat) (ad : Option Addr), e = .returned (.slice ad n n) ∧ Rd w' w'.heap.size ad n g ∧ W64 g ∧ (∀ i, i < n → Cen (fa i) (fb i) (g i)) ∧ Below w.heap.size w w'

theorem half_lt {a b s m : Nat} (h : Ieee.double.add a b = some s) (h2 : Ieee.double.div s TWO = some m) : m < 18446744073709551616 := by
  have w (b : Bool) (R : Nat) (h : R ≤ INF) : word b R < 18446744073709551616 := by
    unfold word; unfold INF at h; cases b <;> simp <;> omega
  rcases add_not_nan h with h1 | h1
  · rw [half_fin h1, Option.some.injEq] at h2
    rw [← h2]; exact w _ _ (Nat.min_le_right _ _)
  · rw [half_inf h1, Option.some.injEq] at h2
    rw [← h2]; exact w _ _ (Nat.le_refl _)

theorem cinv_start (w : World) (va vb : Value) (n : Nat) (g : Nat → Nat) (o : Obj) :
    CInv w va vb n 0 g (((w.alloc (.cells #[va, vb] 31)).alloc o).alloc (.cells (madeCells #[.float .f64 0] n) 26)) := by
  have z1 : (w.alloc (.cells #[va, vb] 31)).heap.size = w.heap.size + 1 := by simp
  have z2 : ((w.alloc (.cells #[va, vb] 31)).alloc o).heap.size = w.heap.size + 1 + 1 := by simp
  have r : (w.alloc (.cells #[va, vb] 31)).rowIs w.heap.size 31 2 (fun i => if i = 0 then va else vb) := by
    refine (World.rowIs_alloc w #[va, vb] 31 _ ?_)
    intro i hi
    match i, hi with
    | 0, _ => rfl
    | 1, _ => rfl
  have r3 := (r.alloc o).alloc (.cells (madeCells #[.float .f64 0] n) 26)
  refine ⟨r3.cell (i := 0) (by omega), r3.cell (i := 1) (by omega), ?_, ?_, ?_⟩
  · have := World.rowIs_made ((w.alloc (.cells #[va, vb] 31)).alloc o) (.float .f64 0) n 26
    rw [z2] at this
    exact this.congr (fun i _ => by unfold outF; rw [if_neg (by omega)])
  · exact (((Below.refl _ _).alloc (Nat.le_refl _) _).alloc (by omega) _).alloc (by omega) _
  · simp
theorem rd_at {w : World} {B : Nat} {ad : Option Addr} {L : Nat} {f : Nat → Nat} (h : Rd w B ad L f) :
    ∃ b o, (0 < L → ad = some ⟨b, o, none⟩ ∧ b < B) ∧ ∀ i, i < L → w.cell? ⟨b, o + i, none⟩ = some (.float .f64 (f i)) := by
  by_cases h0 : 0 < L
  · obtain ⟨b, o, h1, h2, h3⟩ := h h0
    exact ⟨b, o, fun _ => ⟨h1, h2⟩, h3⟩
  · exact ⟨0, 0, fun h => absurd h h0, fun i hi => absurd hi (by omega)⟩
def cutF (c : Nat) (g : Nat → Nat) (t : Nat) : Nat := if t < c then g t else 0

@[go_sem] theorem run_store_float (P : Program) (w : World) (a : Addr) (m : Mode) (k : FloatKind) (x : Nat) : (store a (.float k x) m).run P w = stored P w a (.float k x) m := run_store P w a _ m rfl

/-- where the sum is a number: what a round adds -/
theorem cen_or (a b : Nat) : (∃ s m, Ieee.double.add a b = some s ∧ Ieee.double.div s TWO = some m ∧ Cen a b m ∧ m < 18446744073709551616) ∨ (Ieee.double.add a b = none ∧ ∀ m, Nan m → Cen a b m) := by
  cases h : Ieee.double.add a b with
  | none => exact .inr ⟨rfl, fun m hm => .inr ⟨h, hm⟩⟩
  | some s =>
    obtain ⟨m, hm⟩ := half_some h
    exact .inl ⟨s, m, rfl, hm, .inl ⟨s, h, hm⟩, half_lt h hm⟩
theorem run_quo_nan (x y : Nat) (w' w : World) : (binOp .quo 26 (.float .f64 (nanAt w' x y)) (.float .f64 4611686018427387904)).run Try.prog w = .ok (.float .f64 (nanAt w (nanAt w' x y) 4611686018427387904)) w.drew :=
  run_nan .quo _ _ (half_nan (nan_at w' x y).1) (.inr rfl) w

set_option maxHeartbeats 4000000 in
theorem centre (a b : Option Addr) (la ca lb cb : Nat) (fa fb : Nat → Nat) (n : Nat) (hn : Hid (n = if la = lb then la else 0)) (hla : la ≤ 1048576) (hlb : lb ≤ 1048576) (w : World)
    (hRa : Hid (Rd w w.heap.size a la fa)) (hRb : Hid (Rd w w.heap.size b lb fb)) :
    Calls Try.prog 11 #[.agg #[.slice a la ca, .slice b lb cb]] w fun e w' => CPost w n fa fb e w' := by
  have hn1 : n ≤ 1048576 := by have := hn.out; split at this <;> omega
  have hmk := make_f n (by omega)
  go_enter Try.func11, Try.ntmps11
  go_wp2_with (go_at_call 13; refine (dims _ _ _ _ _ _ _ n hn hla hlb).mono ?_; rintro e w' ⟨rfl, rfl⟩)
  go_loopg [10] n (fun r i wr => ∃ (k : Nat) (g : Nat → Nat), r + k = n ∧ i = .int .i64 (k : Int) ∧ Hid (CInv w (.slice a la ca) (.slice b lb cb) n k g wr) ∧ Hid (∀ i, i < k → Cen (fa i) (fb i) (g i) ∧ g i < 18446744073709551616))
  case atStart => exact ⟨0, fun _ => 0, by omega, rfl, cinv_start w _ _ n _ _, fun i hi => absurd hi (by omega)⟩
  case round =>
    obtain ⟨k, g, hk, rfl, hI, hC⟩ := hrel
    go_wp2
    · have hlt : k < n := by omega
      have e1 : la = n ∧ lb = n := by
        have := hn.out
        by_cases e : la = lb
        · rw [if_pos e] at this; exact ⟨this.symm, by omega⟩
        · rw [if_neg e] at this; omega
      obtain ⟨b1, o1, ea, hb1, ha⟩ := hRa.out (by omega)
      obtain ⟨b2, o2, eb, hb2, hb⟩ := hRb.out (by omega)
      subst ea
      subst eb
      have ga := (hI.out.bel.cell hb1).trans (ha k (by omega))
      have gb := (hI.out.bel.cell hb2).trans (hb k (by omega))
      have c0 := hI.out.c0
      have c1 := hI.out.c1
      have gr : wr.cell? ⟨w.heap.size + 1 + 1, k, none⟩ = some (.float .f64 0) := by
        rw [hI.out.row.cell hlt]; unfold outF; rw [if_neg (by omega)]
      have gf := hI.out.row.frozen k
      have q1 : (k : Int) < (la : Int) := by omega
      have q2 : (k : Int) < (lb : Int) := by omega
      have HC : Hid (∀ m, Cen (fa k) (fb k) m → m < 18446744073709551616 → ∀ i, i < k + 1 → Cen (fa i) (fb i) (updN g k m i) ∧ updN g k m i < 18446744073709551616) := by
        intro m hm hm2 i hi
        unfold updN
        by_cases e : i = k
        · rw [if_pos e, e]; exact ⟨hm, hm2⟩
        · rw [if_neg e]; exact hC.out i (by omega)
      clear ha hb
      rcases cen_or (fa k) (fb k) with ⟨s, m, hs, hm, hc, hl⟩ | ⟨hs, hc⟩
      · have r1 := fun w => run_float_arith (P := Try.prog) (w := w) .add 26 .f64 (fa k) (fb k) s hs
        have r2 := fun w => run_float_arith (P := Try.prog) (w := w) .quo 26 .f64 s 4611686018427387904 m hm
        clear hs hm
        have HC2 : Hid _ := HC.out m hc hl
        clear hc hl
        go_big_region
        all_goals go_wp2
        all_goals go_roundg (n - (k + 1))
        case measure => omega
        case rel => exact ⟨k + 1, updN g k m, by omega, by go_num, hI.out.drew.step m, HC2⟩
      · have r1 := run_nan .add (fa k) (fb k) hs (.inl rfl)
        have r2 := run_quo_nan (fa k) (fb k)
        clear hs
        have hc : Hid _ := hc
        go_big_region
        all_goals go_wp2
        all_goals go_roundg (n - (k + 1))
        case measure => omega
        case rel =>
          have z := nan_at wr.drew.drew (nanAt wr.drew (fa k) (fb k)) 4611686018427387904
          exact ⟨k + 1, updN g k _, by omega, by go_num, hI.out.drew.drew.drew.step _, HC.out _ (hc.out _ z.1) z.2⟩
    · have e : k = n := by omega
      subst e
      go_ret
      refine ⟨cutF k g, _, rfl, ?_, ?_, ?_, hI.out.bel⟩
      · intro h0
        refine ⟨_, _, rfl, by rw [hI.out.size]; omega, ?_⟩
        intro i hi
        rw [Nat.zero_add, hI.out.row.cell hi]
        unfold outF cutF
        rfl
      · intro i
        unfold cutF
        by_cases e : i < k
        · rw [if_pos e]; exact (hC.out i e).2
        · rw [if_neg e]; omega
      · intro i hi
        unfold cutF
        rw [if_pos hi]; exact (hC.out i hi).1
end Go.Proofs.Qxb6621747a.Wk
