/-
  Lemmas for the walk of join: its memory, what absorb leaves.
-/
import Derived.Test.Qxb6620807aAbsorb
import Derived.Test.Qxb6620807aMrg
namespace Go.Proofs.Qxb6620807a.Wk
open Go.RowKit
set_option linter.unusedVariables false

theorem make_0 (n : Nat) (h : n ≤ 2097152) (w : World) :
    (Instr.makeSlice 23 (.int .i64 0) (.int .i64 (n : Int))).run Try.prog w = .ok (.slice (some ⟨w.heap.size, 0, none⟩) 0 n) (w.alloc (.cells (madeCells #[.int .u64 0] n) 41)) := by
  obtain ⟨i0, hi, hz0, hz1, hz2⟩ := info_parts Try.info41
  have h1 := run_make (P := Try.prog) w 23 41 i0 (.int .u64 0) Try.underlying23 hi hz0 .i64 .i64 0 (n : Int) (by omega) (by omega) (by rw [hz2]; omega) (by omega)
  rw [h1, hz1]
  simp [Value.cells]

def outF (c : Nat) (out : Nat → Int) (t : Nat) : Value := .int .u64 (if t < c then out t else 0)

/-- the memory of the call: the two runs, the result's cells, the row that is filled -/
structure Inv (w : World) (s : ByteArray) (U V : Int) (va vb : Value) (N c : Nat) (out : Nat → Int) (wr : World) : Prop where
  r0 : wr.rowIs w.heap.size 54 3 (runF s U va)
  r1 : wr.rowIs (w.heap.size + 1) 54 3 (runF s V vb)
  r2 : wr.rowIs (w.heap.size + 1 + 1) 54 3 (runF ⟨#[]⟩ 0 (.slice none 0 0))
  r3 : wr.rowIs (w.heap.size + 1 + 1 + 1) 41 N (outF c out)
  bel : Below w.heap.size w wr
  size : w.heap.size + 4 ≤ wr.heap.size
theorem Inv.drewN {w : World} {s : ByteArray} {U V : Int} {va vb : Value} {N c : Nat} {out : Nat → Int} {wr : World} (h : Inv w s U V va vb N c out wr) (n : Nat) : Inv w s U V va vb N c out (wr.drewN n) :=
  ⟨h.r0, h.r1, h.r2, h.r3, ⟨h.bel.os, h.bel.tape, h.bel.output, h.bel.size, h.bel.block⟩, h.size⟩
theorem Inv.drew {w : World} {s : ByteArray} {U V : Int} {va vb : Value} {N c : Nat} {out : Nat → Int} {wr : World} (h : Inv w s U V va vb N c out wr) : Inv w s U V va vb N c out wr.drew :=
  ⟨h.r0, h.r1, h.r2, h.r3, h.bel.drew, h.size⟩

theorem run3_alloc (w : World) (s : ByteArray) (u : Int) (v : Value) : (w.alloc (.cells #[.string s, .int .u64 u, v] 54)).rowIs w.heap.size 54 3 (runF s u v) := by
  refine (World.rowIs_alloc w #[.string s, .int .u64 u, v] 54 (runF s u v) ?_)
  intro i hi
  match i, hi with
  | 0, _ => rfl
  | 1, _ => rfl
  | 2, _ => rfl

theorem inv_start (w : World) (s : ByteArray) (U V : Int) (va vb : Value) (N : Nat) (out : Nat → Int) :
    Inv w s U V va vb N 0 out ((((w.alloc (.cells #[.string s, .int .u64 U, va] 54)).alloc (.cells #[.string s, .int .u64 V, vb] 54)).alloc (.cells #[.string ⟨#[]⟩, .int .u64 0, .slice none 0 0] 54)).alloc (.cells (madeCells #[.int .u64 0] N) 41)) := by
  have z1 : (w.alloc (.cells #[.string s, .int .u64 U, va] 54)).heap.size = w.heap.size + 1 := by simp
  have z2 : ((w.alloc (.cells #[.string s, .int .u64 U, va] 54)).alloc (.cells #[.string s, .int .u64 V, vb] 54)).heap.size = w.heap.size + 1 + 1 := by simp
  have z3 : (((w.alloc (.cells #[.string s, .int .u64 U, va] 54)).alloc (.cells #[.string s, .int .u64 V, vb] 54)).alloc (.cells #[.string ⟨#[]⟩, .int .u64 0, .slice none 0 0] 54)).heap.size = w.heap.size + 1 + 1 + 1 := by simp
  refine ⟨?_, ?_, ?_, ?_, ?_, ?_⟩
  · exact (((run3_alloc w s U va).alloc _).alloc _).alloc _
  · have := run3_alloc (w.alloc (.cells #[.string s, .int .u64 U, va] 54)) s V vb
    rw [z1] at this
    exact (this.alloc _).alloc _
  · have := run3_alloc ((w.alloc (.cells #[.string s, .int .u64 U, va] 54)).alloc (.cells #[.string s, .int .u64 V, vb] 54)) ⟨#[]⟩ 0 (.slice none 0 0)
    rw [z2] at this
    exact this.alloc _
  · have := World.rowIs_made (((w.alloc (.cells #[.string s, .int .u64 U, va] 54)).alloc (.cells #[.string s, .int .u64 V, vb] 54)).alloc (.cells #[.string ⟨#[]⟩, .int .u64 0, .slice none 0 0] 54)) (.int .u64 0) N 41
    rw [z3] at this
    exact this.congr (fun i _ => by unfold outF; rw [if_neg (by omega)])
  · exact ((((Below.refl _ _).alloc (Nat.le_refl _) _).alloc (by omega) _).alloc (by omega) _).alloc (by omega) _
  · have : ((((w.alloc (.cells #[.string s, .int .u64 U, va] 54)).alloc (.cells #[.string s, .int .u64 V, vb] 54)).alloc (.cells #[.string ⟨#[]⟩, .int .u64 0, .slice none 0 0] 54)).alloc (.cells (madeCells #[.int .u64 0] N) 41)).heap.size = w.heap.size + 1 + 1 + 1 + 1 := by simp
    omega

/-- one counter more in the row -/
theorem Inv.push {w : World} {s : ByteArray} {U V : Int} {va vb : Value} {N c : Nat} {out : Nat → Int} {wr : World} (h : Inv w s U V va vb N c out wr) (x : Int) (o : Obj) :
    Inv w s U V va vb N (c + 1) (upd out c x) ((wr.alloc o).setCells (w.heap.size + 1 + 1 + 1) (0 + c * 1) [.int .u64 x]) := by
  have e : (0 + c * 1) = c := by omega
  rw [e]
  show Inv w s U V va vb N (c + 1) (upd out c x) ((wr.alloc o).setCell ⟨w.heap.size + 1 + 1 + 1, c, none⟩ (.int .u64 x))
  refine ⟨(h.r0.alloc o).setOther (by simp only []; omega) _, (h.r1.alloc o).setOther (by simp only []; omega) _, (h.r2.alloc o).setOther (by simp only []; omega) _, ?_, ?_, ?_⟩
  · refine ((h.r3.alloc o).set c (.int .u64 x)).congr ?_
    intro t ht
    unfold outF upd
    by_cases e1 : t = c
    · subst e1; simp
    · by_cases e2 : t < c
      · have : t < c + 1 := by omega
        simp [e1, e2, this]
      · have : ¬ t < c + 1 := by omega
        simp [e1, e2, this]
  · exact (h.bel.alloc (by have := h.size; omega) o).setCell (by simp; omega) _
  · have := h.size
    simp [World.setCell]
    omega
theorem Inv.spare {w : World} {s : ByteArray} {U V : Int} {va vb : Value} {N c : Nat} {out : Nat → Int} {wr : World} (h : Inv w s U V va vb N c out wr) (hc : c < N) (x : Value) (o : Obj) :
    ∀ j, j < [x].length → ((wr.alloc o).cell? ⟨w.heap.size + 1 + 1 + 1, 0 + c * 1 + j, none⟩).isSome = true ∧ (wr.alloc o).frozen? ⟨w.heap.size + 1 + 1 + 1, 0 + c * 1 + j, none⟩ = false := by
  intro j hj
  have e : 0 + c * 1 + j = c := by simp at hj; omega
  rw [e]
  exact ⟨by rw [(h.r3.alloc o).cell hc]; rfl, (h.r3.alloc o).frozen c⟩

theorem inv_end {w : World} {s : ByteArray} {U V : Int} {va vb : Value} {N c : Nat} {out : Nat → Int} {wr : World} (h : Inv w s U V va vb N c out wr) (x : Int) (o : Obj) :
    Inv w s U V va vb N (c + 1) (upd out c x) ((wr.alloc o).drew.setCells (w.heap.size + 1 + 1 + 1) c [.int .u64 x]) := by
  have h1 := h.drew.push x o
  rw [show 0 + c * 1 = c from by omega] at h1
  exact h1
theorem rd_at {w : World} {B : Nat} {ad : Option Addr} {L : Nat} {f : Nat → Int} (h : Rd w B ad L f) :
    ∃ b o, (0 < L → ad = some ⟨b, o, none⟩ ∧ b < B) ∧ ∀ i, i < L → w.cell? ⟨b, o + i, none⟩ = some (.int .u64 (f i)) := by
  by_cases h0 : 0 < L
  · obtain ⟨b, o, h1, h2, h3⟩ := h h0
    exact ⟨b, o, fun _ => ⟨h1, h2⟩, h3⟩
  · exact ⟨0, 0, fun h => absurd h h0, fun i hi => absurd hi (by omega)⟩

/-- what join leaves -/
def JPost (w : World) (s : ByteArray) (U V : Int) (la lb : Nat) (fa fb : Nat → Int) (e : Ending) (w' : World) : Prop :=
  ∃ (U' : Int) (L' : Nat) (f' : Nat → Int) (ad' : Option Addr) (cp : Nat), e = .returned (.agg #[.string s, .int .u64 U', .slice ad' L' cp]) ∧ Rd w' w'.heap.size ad' L' f' ∧ U64 f' ∧ (0 ≤ U' ∧ U' ≤ 18446744073709551615) ∧ L' ≤ la + lb ∧
    Va U' L' f' ∧ (∀ x, Has U' L' f' x ↔ Has U la fa x ∨ Has V lb fb x) ∧ Below w.heap.size w w'

/-- the row as a function on all numbers -/
def cutF (c : Nat) (out : Nat → Int) (t : Nat) : Int := if t < c then out t else 0
theorem cutF_lt {c : Nat} {out : Nat → Int} {t : Nat} (h : t < c) : cutF c out t = out t := by simp [cutF, h]
theorem mrg_u64 {U : Int} {la lb : Nat} {fa fb : Nat → Int} {c : Nat} {out : Nat → Int} (hm : Mrg U la lb fa fb la lb c out) (ha : U64 fa) (hb : U64 fb) : U64 (cutF c out) := by
  intro i
  unfold cutF
  by_cases h : i < c
  · rw [if_pos h]
    rcases (hm.mem (out i)).1 ⟨i, h, rfl⟩ with ⟨q, _, e⟩ | ⟨q, _, e, _⟩
    · rw [← e]; exact ha q
    · rw [← e]; exact hb q
  · rw [if_neg h]; omega
theorem va_congr {up : Int} {L : Nat} {f g : Nat → Int} (h : ∀ i, i < L → f i = g i) (hv : Va up L f) : Va up L g := by
  intro k hk
  have h1 := hv k hk
  rw [← h k hk]
  by_cases e : k = 0
  · rw [if_pos e] at h1 ⊢; exact h1
  · rw [if_neg e] at h1 ⊢; rw [← h (k - 1) (by omega)]; exact h1
theorem has_congr {up : Int} {L : Nat} {f g : Nat → Int} (h : ∀ i, i < L → f i = g i) (x : Int) : Has up L f x ↔ Has up L g x :=
  or_congr_right ⟨fun ⟨i, hi, e⟩ => ⟨i, hi, by rw [← h i hi]; exact e⟩, fun ⟨i, hi, e⟩ => ⟨i, hi, by rw [h i hi]; exact e⟩⟩

/-- the memory behind absorb -/
structure Done (w : World) (s : ByteArray) (U V : Int) (la lb : Nat) (fa fb : Nat → Int) (U' : Int) (L' : Nat) (f' : Nat → Int) (ad' : Option Addr) (cp : Nat) (w' : World) : Prop where
  r0 : w'.rowIs w.heap.size 54 3 (runF s U' (.slice ad' L' cp))
  r2 : w'.rowIs (w.heap.size + 1 + 1) 54 3 (runF ⟨#[]⟩ 0 (.slice none 0 0))
  bel : Below w.heap.size w w'
  rd : L' ≠ 0 → ∃ o, ad' = some ⟨w.heap.size + 1 + 1 + 1, o, none⟩ ∧ ∀ i, i < L' → w'.cell? ⟨w.heap.size + 1 + 1 + 1, o + i, none⟩ = some (.int .u64 (f' i))
  size : w.heap.size + 4 ≤ w'.heap.size
  u64 : U64 f'
  up : 0 ≤ U' ∧ U' ≤ 18446744073709551615
  len : L' ≤ la + lb
  va : Va U' L' f'
  has : ∀ x, Has U' L' f' x ↔ Has U la fa x ∨ Has V lb fb x

theorem absorb_inv {w : World} {s : ByteArray} {U V : Int} {va vb : Value} {la lb c : Nat} {fa fb out : Nat → Int} {wr : World} (hI : Inv w s U V va vb (la + lb) c out wr) (hM : Mrg U la lb fa fb la lb c out)
    (hU : 0 ≤ U ∧ U ≤ 18446744073709551615) (hV : 0 ≤ V) (hUV : V ≤ U) (hza : U64 fa) (hzb : U64 fb) (hva : Va U la fa) (hvb : Va V lb fb) (hc : c ≤ la + lb) (hn : la + lb ≤ 2097152) :
    Calls Try.prog 39 #[.pointer (some ⟨w.heap.size, 0, none⟩)] (wr.setCell ⟨w.heap.size, 2, none⟩ (.slice (some ⟨w.heap.size + 1 + 1 + 1, 0, none⟩) c (la + lb))) fun e w' => e = .returned (.tuple #[]) ∧
      ∃ (U' : Int) (L' : Nat) (f' : Nat → Int) (ad' : Option Addr) (cp : Nat), Done w s U V la lb fa fb U' L' f' ad' cp w' := by
  have hasc : Asc c (cutF c out) := fun p q hpq hq => by rw [cutF_lt hq, cutF_lt (by omega)]; exact hM.asc p q hpq hq
  have hgt : ∀ i, i < c → U < cutF c out i := by
    intro t ht
    rw [cutF_lt ht]
    rcases (hM.mem (out t)).1 ⟨t, ht, rfl⟩ with ⟨q, hq, e⟩ | ⟨q, hq, e, h⟩
    · have := va_gt hva q hq; omega
    · exact h
  have hrow : (wr.setCell ⟨w.heap.size, 2, none⟩ (.slice (some ⟨w.heap.size + 1 + 1 + 1, 0, none⟩) c (la + lb))).rowIs w.heap.size 54 3 (runF s U (.slice (some ⟨w.heap.size + 1 + 1 + 1, 0, none⟩) c (la + lb))) := by
    refine (hI.r0.set 2 _).congr ?_
    intro i hi
    match i, hi with
    | 0, _ => simp [runF]
    | 1, _ => simp [runF]
    | 2, _ => simp [runF]
  have hr3 : (wr.setCell ⟨w.heap.size, 2, none⟩ (.slice (some ⟨w.heap.size + 1 + 1 + 1, 0, none⟩) c (la + lb))).rowIs (w.heap.size + 1 + 1 + 1) 41 (la + lb) (outF c out) := hI.r3.setOther (by simp only []; omega) _
  have hr2 : (wr.setCell ⟨w.heap.size, 2, none⟩ (.slice (some ⟨w.heap.size + 1 + 1 + 1, 0, none⟩) c (la + lb))).rowIs (w.heap.size + 1 + 1) 54 3 (runF ⟨#[]⟩ 0 (.slice none 0 0)) := hI.r2.setOther (by simp only []; omega) _
  have hbel : Below w.heap.size w (wr.setCell ⟨w.heap.size, 2, none⟩ (.slice (some ⟨w.heap.size + 1 + 1 + 1, 0, none⟩) c (la + lb))) := hI.bel.setCell (Nat.le_refl _) _
  have hsz : w.heap.size + 4 ≤ (wr.setCell ⟨w.heap.size, 2, none⟩ (.slice (some ⟨w.heap.size + 1 + 1 + 1, 0, none⟩) c (la + lb))).heap.size := by
    have := hI.size; simp [World.setCell]; omega
  have hcell : ∀ i, i < c → (wr.setCell ⟨w.heap.size, 2, none⟩ (.slice (some ⟨w.heap.size + 1 + 1 + 1, 0, none⟩) c (la + lb))).cell? ⟨w.heap.size + 1 + 1 + 1, i, none⟩ = some (.int .u64 (cutF c out i)) := fun i hi => hr3.cell (i := i) (by omega)
  generalize (wr.setCell ⟨w.heap.size, 2, none⟩ (.slice (some ⟨w.heap.size + 1 + 1 + 1, 0, none⟩) c (la + lb))) = wx at *
  refine (absorb w.heap.size (w.heap.size + 1 + 1 + 1) (by omega) s U c (la + lb) (cutF c out) _ wx hU (mrg_u64 hM hza hzb) hasc hgt hc hn hrow (fun _ => rfl) hcell).mono ?_
  rintro e w' ⟨rfl, d, ad', cp, hd, hpre, hne, hrow', had, hon⟩
  have hpre' : ∀ i, i < d → out i = U + 1 + i := fun i hi => by rw [← hpre i hi, cutF_lt (by omega)]
  have hne' : d < c → out d ≠ U + d + 1 := fun h => by rw [← cutF_lt (out := out) h]; exact hne h
  obtain ⟨hv1, hh1⟩ := join_plain U V la lb fa fb c d out hU.1 hV hUV hva hvb hM hd hpre' hne'
  have hcg : ∀ i, i < c - d → (fun i => out (d + i)) i = (fun i => cutF c out (d + i)) i := fun i hi => by show out (d + i) = cutF c out (d + i); rw [cutF_lt (by omega)]
  refine ⟨rfl, U + d, c - d, fun i => cutF c out (d + i), ad', cp, ?_⟩
  refine ⟨hrow', hr2.of_block (hon.block _ (by omega)), ?_, ?_, by have := hon.size; omega, fun i => mrg_u64 hM hza hzb (d + i), ?_, by omega, va_congr hcg hv1, fun x => (has_congr hcg x).symm.trans (hh1 x)⟩
  · exact hbel.trans ⟨hon.os, hon.tape, hon.output, by have := hon.size; omega, fun k hk => hon.block k (by omega)⟩
  · intro hL
    exact ⟨d, had (by omega), fun i hi => by rw [hon.cell (by omega)]; exact hcell (d + i) (by omega)⟩
  · refine ⟨by omega, ?_⟩
    by_cases e : d = 0
    · subst e; simp; exact hU.2
    · have h1 := hpre (d - 1) (by omega)
      have h2 := (mrg_u64 hM hza hzb (d - 1)).2
      omega

theorem fin_cells {w1 : World} {R : Nat} {g : Nat → Value} (h : w1.rowIs R 54 3 g) (a b c : Value) :
    (((w1.setCell ⟨R, 0, none⟩ a).setCell ⟨R, 1, none⟩ b).setCell ⟨R, 2, none⟩ c).cell? ⟨R, 0, none⟩ = some a ∧ (((w1.setCell ⟨R, 0, none⟩ a).setCell ⟨R, 1, none⟩ b).setCell ⟨R, 2, none⟩ c).cell? ⟨R, 1, none⟩ = some b ∧
      (((w1.setCell ⟨R, 0, none⟩ a).setCell ⟨R, 1, none⟩ b).setCell ⟨R, 2, none⟩ c).cell? ⟨R, 2, none⟩ = some c := by
  have h1 := ((h.set 0 a).set 1 b).set 2 c
  exact ⟨h1.cell (i := 0) (by omega), h1.cell (i := 1) (by omega), h1.cell (i := 2) (by omega)⟩
theorem done_post {w : World} {s : ByteArray} {U V : Int} {la lb : Nat} {fa fb : Nat → Int} {U' : Int} {L' : Nat} {f' : Nat → Int} {ad' : Option Addr} {cp : Nat} {w1 w2 : World} (h : Done w s U V la lb fa fb U' L' f' ad' cp w1)
    (hon : Only (w.heap.size + 1 + 1) w1 w2) : JPost w s U V la lb fa fb (.returned (.agg #[.string s, .int .u64 U', .slice ad' L' cp])) w2 := by
  refine ⟨U', L', f', ad', cp, rfl, ?_, h.u64, h.up, h.len, h.va, h.has, h.bel.trans ⟨hon.os, hon.tape, hon.output, by have := hon.size; omega, fun k hk => hon.block k (by omega)⟩⟩
  intro hL
  obtain ⟨o, h1, h2⟩ := h.rd (by omega)
  exact ⟨_, o, h1, by have := hon.size; have := h.size; omega, fun i hi => by rw [hon.cell (by omega)]; exact h2 i hi⟩

end Go.Proofs.Qxb6620807a.Wk
