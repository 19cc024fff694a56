import PyProof.Rows.All
import PyProof.EnumMake
import PyProof.StrLawsOcc
import KE.KLcFree
import KE.KItemAt
import KE.KLcPair
import Wide.FinOn
import OpenK.AllK
import Wide.All
import Lean
import PySem.Challenge.RW_sr0065_01
open PySem PySem.W PyProof.Rows
set_option Elab.async false
set_option compiler.extract_closed false
set_option linter.unusedSimpArgs false
set_option linter.unusedVariables false
set_option maxRecDepth 100000
set_option maxHeartbeats 8000000
namespace Mine
local macro_rules | `(tactic| omega) => `(tactic| ((fail_if_success walk_at "NOLIA"); lia))
-- H1
noncomputable def pickSt : List Nat → List Stmt → List Stmt
  | [], _ => []
  | n :: r, l => (l.drop n).head?.toList ++ pickSt r (l.drop (n + 1))
noncomputable abbrev theRow : RowW := PySem.Challenge.rw_sr0065_01.row.toRowW
noncomputable def view : Program := { theRow.prog with main := { theRow.prog.main with body := pickSt [0, 1, 0, 0, 0, 0, 0, 0, 1, 1, 1, 0] theRow.prog.main.body } }
local macro_rules | `(tactic| walk_at "TRY") => `(tactic| first | (k_unfold; (try dsimp only)) | walk1 | (dsimp only; walk1) | (leave1; walk_say "STEP leave1"; try dsimp only))
local macro_rules | `(tactic| walk_at "KT") => `(tactic| ((case k1 | k2 | k3 | k4 | k5 => k_asm); (case k6 => first | exact rfl | assumption); (case k7 => ktr_room); (case k8 => ktr_units)))
local macro_rules | `(tactic| walk_at "KS") => `(tactic| (walk_at "KT"; (case kc1 | kc2 => assumption)))
local macro_rules | `(tactic| o_head $H:term) => `(tactic| (
  refine holds_open (q := Mine.view) (loose := [Str.ofString "Whitespace"]) (Xt := fun s => xlAt Mine.view [] s && recOk (RowW.records Mine.theRow) s) (XP := XL Mine.view []) (Yf := Hook.obs $H) (Ya := Hook.val $H) (YP := Hook.says $H) (N := 1858) ?hl (Hook.of $H) (Hook.keeps $H) (fun s e => xl_of s (Bool.and_eq_true_iff.mp e).1) XL.keeps (by rfl) (by rfl) (by rfl) (fun s e => recFacts_of (Bool.and_eq_true_iff.mp e).2) (by rfl) (by first | assumption | decide +kernel) (by decide +kernel) ⟨rfl, rfl, rfl, rfl, rfl, by decide +kernel⟩ ?hw ?hc
  case hl =>
    refine LeftO.of_split "special-get-raises" ?_
    intro w
    kernel_rfl))
open_top hd for PySem.Challenge.rw_sr0065_01
-- DKm
section
theorem dk {α : Type} (x : α) (P : α → Prop) : ∃ t, P t → ∀ y, P y := by
  by_cases h : ∃ t, ¬ P t
  · exact h.elim fun t ht => ⟨t, fun q => absurd q ht⟩
  · exact ⟨x, fun _ y => Classical.byContradiction fun q => h ⟨y, q⟩⟩
end
-- M1
section
theorem pow_pos' (k : Nat) : (0 : Int) < 2 ^ k := Int.pow_pos (by decide)
theorem bitAnd_mask {x : Int} (hx : 0 ≤ x) (k : Nat) : Builtin.bitAnd x (2 ^ k - 1) = x % 2 ^ k := by
  have hp := pow_pos' k
  rw [bitAnd_pp hx (by omega)]
  have e : ((2 : Int) ^ k - 1).toNat = 2 ^ k - 1 := by
    have : ((2 : Int) ^ k) = ((2 ^ k : Nat) : Int) := by simp
    rw [this]; omega
  rw [e, Nat.and_two_pow_sub_one_eq_mod]
  have h2 : ((2 : Int) ^ k) = ((2 ^ k : Nat) : Int) := by simp
  rw [h2, Int.natCast_emod, Int.toNat_of_nonneg hx]
theorem bitAnd_hilo {hi lo : Int} {k : Nat} (hh : 0 ≤ hi) (h0 : 0 ≤ lo) (h1 : lo < 2 ^ k) : Builtin.bitAnd (hi * 2 ^ k) lo = 0 := by
  have hp := pow_pos' k
  rw [bitAnd_pp (Int.mul_nonneg hh (by omega)) h0]
  obtain ⟨a, rfl⟩ := Int.eq_ofNat_of_zero_le hh
  obtain ⟨b, rfl⟩ := Int.eq_ofNat_of_zero_le h0
  have e : ((a : Int) * 2 ^ k).toNat = a * 2 ^ k := by
    have : ((a : Int) * 2 ^ k) = ((a * 2 ^ k : Nat) : Int) := by simp
    rw [this]; rfl
  rw [e]
  have hb : b < 2 ^ k := by
    have : ((2 : Int) ^ k) = ((2 ^ k : Nat) : Int) := by simp
    rw [this] at h1; omega
  have : a * 2 ^ k &&& b = 0 := by
    apply Nat.eq_of_testBit_eq
    intro i
    rw [Nat.testBit_and, Nat.zero_testBit]
    by_cases hi : i < k
    · rw [Nat.testBit_mul_two_pow]; simp [Nat.not_le.mpr hi]
    · rw [Nat.testBit_lt_two_pow (Nat.lt_of_lt_of_le hb (Nat.pow_le_pow_right (by decide) (Nat.le_of_not_lt hi)))]; simp
  rw [show ((b : Int)).toNat = b from rfl, this]; rfl
theorem bitOr_hilo {hi lo : Int} {k : Nat} (hh : 0 ≤ hi) (h0 : 0 ≤ lo) (h1 : lo < 2 ^ k) : Builtin.bitOr (hi * 2 ^ k) lo = hi * 2 ^ k + lo := by
  rw [bitOr_and, bitAnd_hilo hh h0 h1]; omega
theorem bitAnd_self_hi {x : Int} (hx : 0 ≤ x) (k : Nat) : Builtin.bitAnd x (x / 2 ^ k * 2 ^ k) = x / 2 ^ k * 2 ^ k := by
  have hp := pow_pos' k
  have hq : 0 ≤ x / 2 ^ k := Int.ediv_nonneg hx (by omega)
  rw [bitAnd_pp hx (Int.mul_nonneg hq (by omega))]
  obtain ⟨a, rfl⟩ := Int.eq_ofNat_of_zero_le hx
  have h2 : ((2 : Int) ^ k) = ((2 ^ k : Nat) : Int) := by simp
  have e : (((a : Int) / 2 ^ k * 2 ^ k)) = ((a / 2 ^ k * 2 ^ k : Nat) : Int) := by simp
  rw [e]
  have : a &&& (a / 2 ^ k * 2 ^ k) = a / 2 ^ k * 2 ^ k := by
    apply Nat.eq_of_testBit_eq
    intro i
    rw [Nat.testBit_and]
    rw [Nat.testBit_mul_two_pow, Nat.testBit_div_two_pow]
    by_cases hi : k ≤ i
    · simp [hi]
    · simp [hi]
  rw [show ((a : Int)).toNat = a from rfl, show (((a / 2 ^ k * 2 ^ k : Nat) : Int)).toNat = a / 2 ^ k * 2 ^ k from rfl, this]
theorem bitXor_hi {x : Int} (hx : 0 ≤ x) (k : Nat) : Builtin.bitXor x (x / 2 ^ k * 2 ^ k) = x % 2 ^ k := by
  rw [bitXor_and, bitAnd_self_hi hx]
  have := Int.ediv_mul_add_emod x (2 ^ k)
  omega
/-- bit lengths -/
theorem intBits_pos {x : Int} (hx : 0 < x) : (2 : Int) ^ (Builtin.Int.intBits x - 1) ≤ x ∧ x < 2 ^ (Builtin.Int.intBits x) := by
  unfold Builtin.Int.intBits
  have hne : (x == 0) = false := by simp; omega
  rw [hne]
  simp only [Bool.false_eq_true, if_false, Nat.add_sub_cancel]
  obtain ⟨a, rfl⟩ := Int.eq_ofNat_of_zero_le (Int.le_of_lt hx)
  have ha : a ≠ 0 := by omega
  simp only [Int.natAbs_natCast]
  constructor
  · have := Nat.log2_self_le ha
    have h2 : ((2 : Int) ^ a.log2) = ((2 ^ a.log2 : Nat) : Int) := by simp
    rw [h2]; omega
  · have := @Nat.lt_log2_self a
    have h2 : ((2 : Int) ^ (a.log2 + 1)) = ((2 ^ (a.log2 + 1) : Nat) : Int) := by simp
    rw [h2]; omega
theorem intBits_le {x : Int} {k : Nat} (hx : 0 ≤ x) (h : x < 2 ^ k) : Builtin.Int.intBits x ≤ k := by
  by_cases h0 : x = 0
  · subst h0; simp [Builtin.Int.intBits]
  · have h1 := (intBits_pos (show 0 < x by omega)).1
    have h2 : (2 : Int) ^ (Builtin.Int.intBits x - 1) < 2 ^ k := Int.lt_of_le_of_lt h1 h
    have h3 : (2 : Nat) ^ (Builtin.Int.intBits x - 1) < 2 ^ k := by
      have e1 : ((2 : Int) ^ (Builtin.Int.intBits x - 1)) = ((2 ^ (Builtin.Int.intBits x - 1) : Nat) : Int) := by simp
      have e2 : ((2 : Int) ^ k) = ((2 ^ k : Nat) : Int) := by simp
      rw [e1, e2] at h2; exact Int.ofNat_lt.mp h2
    have := (Nat.pow_lt_pow_iff_right (by decide : 1 < 2)).mp h3
    omega
theorem intBits_zero : Builtin.Int.intBits 0 = 0 := by simp [Builtin.Int.intBits]
theorem intBits_ge_of {x : Int} {k : Nat} (h : (2 : Int) ^ k ≤ x) : k + 1 ≤ Builtin.Int.intBits x := by
  have hp := pow_pos' k
  have h1 := (intBits_pos (show 0 < x by omega)).2
  have h2 : (2 : Int) ^ k < 2 ^ (Builtin.Int.intBits x) := Int.lt_of_le_of_lt h h1
  have h3 : (2 : Nat) ^ k < 2 ^ (Builtin.Int.intBits x) := by
    have e1 : ((2 : Int) ^ k) = ((2 ^ k : Nat) : Int) := by simp
    have e2 : ((2 : Int) ^ (Builtin.Int.intBits x)) = ((2 ^ (Builtin.Int.intBits x) : Nat) : Int) := by simp
    rw [e1, e2] at h2; exact Int.ofNat_lt.mp h2
  have := (Nat.pow_lt_pow_iff_right (by decide : 1 < 2)).mp h3
  omega
theorem intBits_eq {x : Int} {n : Int} (hn : 0 < n) (h1 : (2 : Int) ^ (n.toNat - 1) ≤ x) (h2 : x < 2 ^ n.toNat) : (Builtin.Int.intBits x : Int) = n := by
  have hp := pow_pos' (n.toNat - 1)
  have a := intBits_ge_of h1
  have b := intBits_le (show 0 ≤ x by omega) h2
  omega
theorem noPylong_near {x y : Int} (h : (Builtin.Int.intBits x : Int) ≤ Builtin.Int.intBits y + 4000) : Builtin.divisionGoesByPylong x y = false := by
  unfold Builtin.divisionGoesByPylong
  unfold Builtin.Int.intBits at h
  simp only [Bool.and_eq_false_iff, decide_eq_false_iff_not]
  right
  by_cases hx : x = 0
  · subst hx; simp
  · by_cases hy : y = 0
    · subst hy
      simp only [beq_self_eq_true, if_true]
      have : (x == 0) = false := by simpa using hx
      simp only [this, Bool.false_eq_true, if_false] at h ⊢
      simp only [beq_self_eq_true, if_true] at h
      omega
    · have h1 : (x == 0) = false := by simpa using hx
      have h2 : (y == 0) = false := by simpa using hy
      simp only [h1, h2, Bool.false_eq_true, if_false] at h ⊢
      omega
end
-- M2
section
/-- the two halves of a division -/
theorem split_div {a b : Int} {k : Nat} (ha : 0 ≤ a) (hb : 0 < b) :
    (a / 2 ^ k) / b * 2 ^ k + (((a / 2 ^ k) % b) * 2 ^ k + a % 2 ^ k) / b = a / b ∧ (((a / 2 ^ k) % b) * 2 ^ k + a % 2 ^ k) % b = a % b ∧
    0 ≤ (a / 2 ^ k) / b ∧ 0 ≤ (((a / 2 ^ k) % b) * 2 ^ k + a % 2 ^ k) / b ∧ (((a / 2 ^ k) % b) * 2 ^ k + a % 2 ^ k) / b < 2 ^ k ∧
    0 ≤ (a / 2 ^ k) % b ∧ (a / 2 ^ k) % b < b ∧ 0 ≤ a % 2 ^ k ∧ a % 2 ^ k < 2 ^ k := by
  have hp := pow_pos' k
  generalize (2 : Int) ^ k = P at hp
  have e1 := Int.ediv_mul_add_emod a P
  have e2 := Int.ediv_mul_add_emod (a / P) b
  have n1 : 0 ≤ a / P := Int.ediv_nonneg ha (by omega)
  have n2 : 0 ≤ a % P := Int.emod_nonneg _ (by omega)
  have l2 : a % P < P := Int.emod_lt_of_pos _ hp
  have n3 : 0 ≤ a / P / b := Int.ediv_nonneg n1 (by omega)
  have n4 : 0 ≤ a / P % b := Int.emod_nonneg _ (by omega)
  have l4 : a / P % b < b := Int.emod_lt_of_pos _ hb
  have key : a = (a / P / b * P) * b + (a / P % b * P + a % P) := by
    have : a = (a / P / b * b + a / P % b) * P + a % P := by rw [e2]; exact e1.symm
    rw [Int.add_mul] at this
    have c : a / P / b * b * P = a / P / b * P * b := by rw [Int.mul_assoc, Int.mul_comm b P, ← Int.mul_assoc]
    omega
  have n5 : 0 ≤ a / P % b * P + a % P := Int.add_nonneg (Int.mul_nonneg n4 (by omega)) n2
  refine ⟨?_, ?_, n3, Int.ediv_nonneg n5 (by omega), ?_, n4, l4, n2, l2⟩
  · have := Int.add_mul_ediv_right (a / P % b * P + a % P) (a / P / b * P) (show b ≠ 0 by omega)
    rw [Int.add_comm, ← this, Int.add_comm, ← key]
  · have := Int.add_mul_emod_self_right (a / P % b * P + a % P) (a / P / b * P) b
    rw [← this, Int.add_comm, ← key]
  · refine Int.ediv_lt_of_lt_mul hb ?_
    have : (a / P % b + 1) * P ≤ b * P := Int.mul_le_mul_of_nonneg_right (by omega) (by omega)
    rw [Int.add_mul, Int.one_mul] at this
    rw [Int.mul_comm P b]; omega
theorem pow_add' (i j : Nat) : (2 : Int) ^ (i + j) = 2 ^ i * 2 ^ j := Int.pow_add ..
theorem pow_succ2 (i : Nat) (h : 0 < i) : (2 : Int) ^ i = 2 ^ (i - 1) * 2 := by
  obtain ⟨j, rfl⟩ : ∃ j, i = j + 1 := ⟨i - 1, by omega⟩
  rw [Nat.add_sub_cancel, Int.pow_succ]
theorem div_div_pow {a : Int} (ha : 0 ≤ a) (k : Nat) : a / 2 ^ (k + k) = a / 2 ^ k / 2 ^ k := by
  rw [pow_add', Int.ediv_ediv_of_nonneg (Int.le_of_lt (pow_pos' k))]
theorem hi_lo {x : Int} (k : Nat) : x / 2 ^ k * 2 ^ k + x % 2 ^ k = x := Int.ediv_mul_add_emod x _
/-- the facts of the halving step: b of k + k bits -/
theorem half_facts {a b : Int} {k : Nat} (ha : 0 ≤ a) (hk : 0 < k) (h1 : (2 : Int) ^ (k + k - 1) ≤ b) (h2 : b < 2 ^ (k + k)) (hab : a < b * 2 ^ (k + k)) :
    0 < b ∧ 0 ≤ a / 2 ^ (k + k) ∧ a / 2 ^ (k + k) < b ∧ 0 ≤ (a / 2 ^ k) % 2 ^ k ∧ (a / 2 ^ k) % 2 ^ k < 2 ^ k ∧ (2 : Int) ^ (k - 1) ≤ b / 2 ^ k ∧ b / 2 ^ k < 2 ^ k ∧ 0 ≤ b % 2 ^ k ∧ b % 2 ^ k < 2 ^ k ∧
    b = b / 2 ^ k * 2 ^ k + b % 2 ^ k ∧ a / 2 ^ (k + k) * 2 ^ k + a / 2 ^ k % 2 ^ k = a / 2 ^ k ∧ 0 ≤ a / 2 ^ k / b ∧ a / 2 ^ k / b < 2 ^ k := by
  have hp := pow_pos' k
  have hpp := pow_pos' (k + k)
  have hp1 := pow_pos' (k + k - 1)
  have hb : 0 < b := by omega
  refine ⟨hb, Int.ediv_nonneg ha (by omega), Int.ediv_lt_of_lt_mul hpp hab, Int.emod_nonneg _ (by omega), Int.emod_lt_of_pos _ hp, ?_, ?_, Int.emod_nonneg _ (by omega), Int.emod_lt_of_pos _ hp, (hi_lo k).symm, ?_, ?_, ?_⟩
  · refine (Int.le_ediv_iff_mul_le hp).mpr ?_
    rw [← pow_add', show k - 1 + k = k + k - 1 by omega]; exact h1
  · refine Int.ediv_lt_of_lt_mul hp ?_
    rw [← pow_add']; exact h2
  · rw [div_div_pow ha]; exact hi_lo k
  · exact Int.ediv_nonneg (Int.ediv_nonneg ha (by omega)) (by omega)
  · refine Int.ediv_lt_of_lt_mul hb ?_
    refine Int.ediv_lt_of_lt_mul hp ?_
    rw [pow_add'] at hab
    rw [Int.mul_comm (2 ^ k) b, Int.mul_assoc]; exact hab
theorem lt_pow_bits {x : Int} {k : Nat} (h0 : 0 ≤ x) (h : x < 2 ^ k) : (Builtin.Int.intBits x : Int) ≤ k := by
  have := intBits_le h0 h; omega
/-- what `_div3n2n` guesses is at least the quotient -/
theorem guess_ge {a12 a3 b b1 b2 : Int} {k : Nat} (ha : 0 ≤ a12) (h3 : 0 ≤ a3) (h3' : a3 < 2 ^ k) (hb1 : 0 < b1) (hb2 : 0 ≤ b2) (hb : b = b1 * 2 ^ k + b2) :
    (a12 * 2 ^ k + a3) / b ≤ a12 / b1 := by
  have hp := pow_pos' k
  have hbp : 0 < b := by
    have := Int.mul_pos hb1 hp
    omega
  generalize hq : (a12 * 2 ^ k + a3) / b = q
  have hA : 0 ≤ a12 * 2 ^ k + a3 := Int.add_nonneg (Int.mul_nonneg ha (by omega)) h3
  have hq0 : 0 ≤ q := hq ▸ Int.ediv_nonneg hA (by omega)
  refine (Int.le_ediv_iff_mul_le hb1).mpr ?_
  have h1 : q * b ≤ a12 * 2 ^ k + a3 := by rw [← hq]; exact Int.ediv_mul_le _ (by omega)
  have h2 : q * (b1 * 2 ^ k) ≤ q * b := Int.mul_le_mul_of_nonneg_left (by omega) hq0
  have h4 : (q * b1) * 2 ^ k < (a12 + 1) * 2 ^ k := by
    rw [Int.add_mul, Int.one_mul, Int.mul_assoc]; omega
  have := Int.lt_of_mul_lt_mul_right h4 (by omega)
  omega
/-- a rest in its bounds tells the division -/
theorem div_of_rest {a b q r : Int} (e : a = q * b + r) (h0 : 0 ≤ r) (h1 : r < b) : q = a / b ∧ r = a % b := by
  subst e
  constructor
  · rw [Int.add_comm, Int.add_mul_ediv_right _ _ (by omega), Int.ediv_eq_zero_of_lt h0 h1]; omega
  · rw [Int.add_comm, Int.add_mul_emod_self_right, Int.emod_eq_of_lt h0 h1]
/-- the start of the correcting loop -/
theorem guess_rest {a12 a3 b b1 b2 q : Int} {k : Nat} (hb : b = b1 * 2 ^ k + b2) (hq : (a12 * 2 ^ k + a3) / b ≤ q) (hbp : 0 < b) :
    ((a12 - q * b1) * 2 ^ k + a3 - q * b2) = (a12 * 2 ^ k + a3) - q * b ∧ (a12 * 2 ^ k + a3) - q * b < b := by
  subst hb
  constructor
  · rw [Int.sub_mul, Int.mul_add, Int.mul_assoc]; omega
  · have h1 := Int.emod_lt_of_pos (a12 * 2 ^ k + a3) hbp
    have h2 := Int.ediv_mul_add_emod (a12 * 2 ^ k + a3) (b1 * 2 ^ k + b2)
    have h3 := Int.mul_le_mul_of_nonneg_right hq (Int.le_of_lt hbp)
    omega
theorem div_lt_pow {a12 a3 b : Int} {k : Nat} (ha : 0 ≤ a12) (h0 : 0 ≤ a3) (h1 : a3 < 2 ^ k) (hab : a12 < b) : (a12 * 2 ^ k + a3) / b < 2 ^ k := by
  refine Int.ediv_lt_of_lt_mul (by omega) ?_
  have : (a12 + 1) * 2 ^ k ≤ b * 2 ^ k := Int.mul_le_mul_of_nonneg_right (by omega) (Int.le_of_lt (pow_pos' k))
  rw [Int.add_mul, Int.one_mul] at this
  rw [Int.mul_comm (2 ^ k) b]; omega
theorem hi_eq {a b P : Int} (hP : 0 < P) (h : a / P = b) : b * P ≤ a ∧ a < b * P + P := by
  subst h
  have h1 := Int.ediv_mul_add_emod a P
  have h2 := Int.emod_nonneg a (show P ≠ 0 by omega)
  have h3 := Int.emod_lt_of_pos a hP
  omega
theorem hi_ne {a b1 b2 P : Int} (hP : 0 < P) (h : a / P ≠ b1) (hab : a < b1 * P + b2) (hb2 : b2 < P) : a < b1 * P := by
  have h1 := Int.ediv_mul_add_emod a P
  have h2 := Int.emod_nonneg a (show P ≠ 0 by omega)
  have h3 : a / P < b1 + 1 := Int.ediv_lt_of_lt_mul hP (by rw [Int.add_mul, Int.one_mul]; omega)
  have h4 : (a / P + 1) * P ≤ b1 * P := Int.mul_le_mul_of_nonneg_right (by omega) (by omega)
  have h5 := Int.emod_lt_of_pos a hP
  rw [Int.add_mul, Int.one_mul] at h4
  omega
theorem mulOk {x y : Int} {k l : Nat} (hx : 0 ≤ x) (hx' : x < 2 ^ k) (hy : 0 ≤ y) (hy' : y < 2 ^ l) (hk : k ≤ 2 ^ 20) (hl : l ≤ 2 ^ 20) : IntMulOk x y :=
  IntMulOk.of_bits (Nat.le_trans (intBits_le hx hx') hk) (Nat.le_trans (intBits_le hy hy') hl)
end
-- C0
section
noncomputable abbrev Led := List (Addr × Obj)
/-- a call's claim: ledger `news` ahead, `Out r news'` behind -/
noncomputable def CallOk (w : World) (p : Program) (loose : List Str) (mean : ExcName → Option Value) (mg mb : Str → Option Value) (f : Addr) (vs : List Value) (dd uu : Nat) (news : Led)
    (Out : Value → Led → Prop) : Prop :=
  ∀ (dp un : Nat) (gd : Option (List Code)) (cn : Str) (cs : Scope) (a : Addr) (ccd : Value) (cl : List (Str × Addr)) (outer : List Env) (A₀ : Around) (base h₀ : Heap) (L : Addr) (m : Str → Option Value) (s : Shared)
    (Q E : Value → Shared → Prop),
    Below A₀ base outer h₀ → Fr h₀ L s.heap m → (hd.heap_39 w.params).In h₀ → News h₀ L s.heap news → Top p loose mean mg mb h₀ → cs.kind = .function → dp + dd < recursionLimit → un + uu < cLine →
    (∀ r news' h' tk', Fr h₀ L h' m → News h₀ L h' news' → Out r news' → Q r { s with heap := h', toks := tk' }) →
    wpAny (model PySem.Challenge.pw_sr0065_01 w) (ktrTop dp un gd cn cs L a ccd cl outer) (call (.ref f) vs) Q E s
theorem CallOk.use {w : World} {p : Program} {loose : List Str} {mean : ExcName → Option Value} {mg mb : Str → Option Value} {f : Addr} {vs : List Value} {dd uu : Nat} {news : Led} {Out : Value → Led → Prop}
    (C : CallOk w p loose mean mg mb f vs dd uu news Out)
    {dp un : Nat} {gd : Option (List Code)} {cn : Str} {cs : Scope} {a : Addr} {ccd : Value} {cl : List (Str × Addr)} {outer : List Env} {A₀ : Around} {base h₀ : Heap} {L : Addr} {m : Str → Option Value} {s : Shared}
    {Q E : Value → Shared → Prop} (B : Below A₀ base outer h₀) (F : Fr h₀ L s.heap m) (X : (hd.heap_39 w.params).In h₀) (N : News h₀ L s.heap news) (T : Top p loose mean mg mb h₀) (hk : cs.kind = .function)
    (h1 : dp + dd < recursionLimit) (h2 : un + uu < cLine)
    (ret : ∀ r news' h' tk', Fr h₀ L h' m → News h₀ L h' news' → Out r news' → Q r { s with heap := h', toks := tk' }) :
    wpAny (model PySem.Challenge.pw_sr0065_01 w) (ktrTop dp un gd cn cs L a ccd cl outer) (call (.ref f) vs) Q E s :=
  C dp un gd cn cs a ccd cl outer A₀ base h₀ L m s Q E B F X N T hk h1 h2 ret
/-- a premise that the walk leaves to me -/
noncomputable def Pre (P : Prop) : Prop := P
noncomputable abbrev tupO (vs : List Value) : Obj := { cls := .type "tuple", data := .seq vs.toArray }
/-- the answer is a new pair of ints -/
noncomputable def Pair2 (news : Led) (q r : Int) (v : Value) (news' : Led) : Prop :=
  ∃ (x : Addr) (tq tr : Tok), v = .ref x ∧ news' = (x, tupO [.int q tq, .int r tr]) :: news ∧ AllLt x news
section
variable {x y : Int} {c p q : Prop} [Decidable c]
theorem ite_neT (h : x ≠ y) (hp : p) : if (x != y) = true then p else q := by rw [if_pos (by simpa using h)]; exact hp
theorem ite_neF (h : x = y) (hq : q) : if (x != y) = true then p else q := by rw [if_neg (by simpa using h)]; exact hq
theorem ite_eqT (h : x = y) (hp : p) : if (x == y) = true then p else q := by rw [if_pos (by simpa using h)]; exact hp
theorem ite_eqF (h : x ≠ y) (hq : q) : if (x == y) = true then p else q := by rw [if_neg (by simpa using h)]; exact hq
theorem ite_decT (h : c) (hp : p) : if decide c = true then p else q := by rw [if_pos (by simpa using h)]; exact hp
theorem ite_decF (h : ¬ c) (hq : q) : if decide c = true then p else q := by rw [if_neg (by simpa using h)]; exact hq
end
section
variable {prog : Program} {w : World} {A : Around} {E : Value → Shared → Prop} {s : Shared} {a n b : Int} {t u : Tok} {Q : Value → Shared → Prop} {h₀ : Heap} {L : Addr} {m : Str → Option Value} {news : Led}
theorem lshift_P (h1 : Pre (0 ≤ n)) (h2 : Pre ((Builtin.Int.intBits a : Int) + n ≤ 2 ^ 27)) (h : Q (.int (a * 2 ^ n.toNat) s.toks) { s with toks := s.toks + 1 }) :
    wpAny (model prog w) A (binaryOp .LShift (.int a t) (.int n u)) Q E s := lshift_int h1 h2 h
theorem ilshift_P (h1 : Pre (0 ≤ n)) (h2 : Pre ((Builtin.Int.intBits a : Int) + n ≤ 2 ^ 27)) (h : Q (.int (a * 2 ^ n.toNat) s.toks) { s with toks := s.toks + 1 }) :
    wpAny (model prog w) A (inplaceOp .LShift (.int a t) (.int n u)) Q E s := ilshift_int h1 h2 h
theorem fdiv_pow (a : Int) (k : Nat) : a.fdiv (2 ^ k) = a / 2 ^ k := Int.fdiv_eq_ediv_of_nonneg _ (Int.le_of_lt (pow_pos' k))
theorem rshift_P (h1 : Pre (0 ≤ n)) (h : Q (.int (a / 2 ^ n.toNat) s.toks) { s with toks := s.toks + 1 }) :
    wpAny (model prog w) A (binaryOp .RShift (.int a t) (.int n u)) Q E s := rshift_int h1 (fdiv_pow a _ ▸ h)
theorem irshift_P (h1 : Pre (0 ≤ n)) (h : Q (.int (a / 2 ^ n.toNat) s.toks) { s with toks := s.toks + 1 }) :
    wpAny (model prog w) A (inplaceOp .RShift (.int a t) (.int n u)) Q E s := irshift_int h1 (fdiv_pow a _ ▸ h)
theorem mul_P (h1 : Pre (IntMulOk a b)) (h : Q (.int (a * b) s.toks) { s with toks := s.toks + 1 }) :
    wpAny (model prog w) A (binaryOp .Mult (.int a t) (.int b u)) Q E s := mul_int h h1
theorem imul_P (h1 : Pre (IntMulOk a b)) (h : Q (.int (a * b) s.toks) { s with toks := s.toks + 1 }) :
    wpAny (model prog w) A (inplaceOp .Mult (.int a t) (.int b u)) Q E s := imul_int h h1
theorem pow_P (h1 : Pre (0 ≤ n)) (h2 : Pre ((Builtin.Int.intBits a : Int) * n ≤ 2 ^ 27)) (h : Q (.int (a ^ n.toNat) s.toks) { s with toks := s.toks + 1 }) :
    wpAny (model prog w) A (binaryOp .Pow (.int a t) (.int n u)) Q E s := pow_int h1 h2 h
theorem floordiv_P (h1 : Pre (0 < b ∧ b < 1073741824)) (h : Q (.int (a / b) s.toks) { s with toks := s.toks + 1 }) :
    wpAny (model prog w) A (binaryOp .FloorDiv (.int a t) (.int b u)) Q E s := by
  obtain ⟨h1', h2⟩ := h1
  refine floordiv_int (by omega) (Int.fdiv_eq_ediv_of_nonneg a (show 0 ≤ b by omega) ▸ h) (.inl (PyProof.noPylong_small (by omega)))
theorem mod_P (h1 : Pre (0 < b ∧ b < 1073741824)) (h : Q (.int (a % b) s.toks) { s with toks := s.toks + 1 }) :
    wpAny (model prog w) A (binaryOp .Mod (.int a t) (.int b u)) Q E s := by
  obtain ⟨h1', h2⟩ := h1
  refine mod_int' (by omega) (Int.fmod_eq_emod_of_nonneg a (show 0 ≤ b by omega) ▸ h)
theorem divmod_P (F : Fr h₀ L s.heap m) (N : News h₀ L s.heap news) (h1 : Pre (0 < b)) (h2 : Pre ((Builtin.Int.intBits a : Int) ≤ Builtin.Int.intBits b + 4000))
    (h : ∀ x h', Fr h₀ L h' m → News h₀ L h' ((x, tupO [.int (a / b) s.toks, .int (a % b) (s.toks + 1)]) :: news) → (∀ p ∈ news, p.1 < x) → Q (.ref x) { s with toks := s.toks + 1 + 1, heap := h' }) :
    wpAny (model prog w) A (call (.builtin "divmod") [.int a t, .int b u]) Q E s := by
  have h1' : 0 < b := h1
  refine divmod_N F N (by omega) (fun h' F' N' => ?_) (.inl (noPylong_near h2))
  rw [Int.fdiv_eq_ediv_of_nonneg _ (by omega), Int.fmod_eq_emod_of_nonneg _ (by omega)] at N'
  exact h _ h' F' N' fun p hp => Heap.lt_size (N p hp).1
end
end
theorem fill_now : Mine.hd.heap_39 = Mine.hd.heap_39 ∧ PySem.Challenge.rw_sr0065_01.name = PySem.Challenge.rw_sr0065_01.name := by
  w_top off
  k_fill
  exact ⟨rfl, rfl⟩
-- C2
theorem fresh_C2 : True := by
  w_top off
  exact trivial
noncomputable def D2 (w : World) (p : Program) (loose : List Str) (mean : ExcName → Option Value) (mg mb : Str → Option Value) (d : Nat) : Prop :=
  ∀ (a b n : Int) (ta tb tn : Tok) (news : Led), Pre (0 ≤ a ∧ 0 < n ∧ n ≤ 2 ^ 20 ∧ n ≤ 4000 * 2 ^ d ∧ (2 : Int) ^ (n.toNat - 1) ≤ b ∧ b < 2 ^ n.toNat ∧ a < b * 2 ^ n.toNat) →
    CallOk w p loose mean mg mb 28 [.int a ta, .int b tb, .int n tn] (2 * d + 1) (16 * d + 8) news (Pair2 news (a / b) (a % b))
noncomputable def D3 (w : World) (p : Program) (loose : List Str) (mean : ExcName → Option Value) (mg mb : Str → Option Value) (d : Nat) : Prop :=
  ∀ (a12 a3 b b1 b2 n : Int) (t1 t2 t3 t4 t5 t6 : Tok) (news : Led), Pre (0 ≤ a12 ∧ 0 ≤ a3 ∧ a3 < 2 ^ n.toNat ∧ 0 < n ∧ n ≤ 2 ^ 20 ∧ n ≤ 4000 * 2 ^ d ∧ (2 : Int) ^ (n.toNat - 1) ≤ b1 ∧ b1 < 2 ^ n.toNat ∧ 0 ≤ b2 ∧ b2 < 2 ^ n.toNat ∧
    b = b1 * 2 ^ n.toNat + b2 ∧ a12 < b) →
    CallOk w p loose mean mg mb 35 [.int a12 t1, .int a3 t2, .int b t3, .int b1 t4, .int b2 t5, .int n t6] (2 * d + 2) (16 * d + 16) news (Pair2 news ((a12 * 2 ^ n.toNat + a3) / b) ((a12 * 2 ^ n.toNat + a3) % b))
/-- the end of a call that answers a pair -/
theorem ret_pair {h₀ h' : Heap} {L x : Addr} {m : Str → Option Value} {news news' : Led} {s : Shared} {Q : Value → Shared → Prop} {q r q' r' : Int} {tq tr : Tok} {tk' : Nat}
    (hret : ∀ v news' h' tk', Fr h₀ L h' m → News h₀ L h' news' → Pair2 news q r v news' → Q v { s with heap := h', toks := tk' })
    (F : Fr h₀ L h' m) (N : News h₀ L h' news') (hm : (x, tupO [.int q' tq, .int r' tr]) ∈ news') (hs : ∀ p ∈ news, p ∈ news') (hlt : AllLt x news) (e : Pre (q' = q ∧ r' = r)) : Q (.ref x) { s with heap := h', toks := tk' } := by
  obtain ⟨rfl, rfl⟩ := e
  refine hret _ _ h' tk' F ?_ ⟨x, tq, tr, rfl, rfl, hlt⟩
  intro p hp
  rcases List.mem_cons.mp hp with rfl | hp
  · exact N _ hm
  · exact N _ (hs _ hp)
theorem lt_sub {x : Addr} {big news : Led} (h : ∀ p ∈ big, p.1 < x) (hs : ∀ p ∈ news, p ∈ big) : AllLt x news := allLt_of fun p hp => h p (hs p hp)
local macro_rules | `(tactic| walk_at "SUB") => `(tactic| (intro p hp; repeat (first | exact hp | refine List.Mem.tail _ ?_)))
local macro_rules | `(tactic| walk_at "LT") => `(tactic| first | tbn_find | assumption | exact allLt_of (by assumption) | exact lt_sub (by assumption) (by walk_at "SUB"))
local macro_rules | `(tactic| walk_at "STEPS") => `(tactic| repeat' ((fail_if_success (with_reducible first | (show Pre _) | (show wpAny _ _ (exec (Stmt.While _ _ _ _) _) _ _ _) | (show wpAny _ _ (call (Value.ref _) _) _ _ _))); walk_at "TRY"))
local macro_rules | `(tactic| walk_at "ite") => `(tactic| (k_here; first | refine ite_neT (by omega) ?_ | refine ite_neF (by omega) ?_ | refine ite_eqT (by omega) ?_ | refine ite_eqF (by omega) ?_ | refine ite_decT (by omega) ?_ | refine ite_decF (by omega) ?_))
local macro_rules | `(tactic| walk_at "binaryOp LShift int int") => `(tactic| (k_here; refine lshift_P ?_ ?_ ?_))
local macro_rules | `(tactic| walk_at "inplaceOp LShift int int") => `(tactic| (k_here; refine ilshift_P ?_ ?_ ?_))
local macro_rules | `(tactic| walk_at "binaryOp RShift int int") => `(tactic| (k_here; refine rshift_P ?_ ?_))
local macro_rules | `(tactic| walk_at "inplaceOp RShift int int") => `(tactic| (k_here; refine irshift_P ?_ ?_))
local macro_rules | `(tactic| walk_at "binaryOp Mult int int") => `(tactic| (k_here; refine mul_P ?_ ?_))
local macro_rules | `(tactic| walk_at "call builtin:divmod") => `(tactic| (k_here; k_dflt (refine' divmod_P ?k1 ?k2 ?h1 ?h2 ?_; (case k1 => k_asm); (case k2 => k_asm)); rotate_left; rotate_left; intro x' h' F' N' l1; (try k_lt l1); (try k_sweep)))
theorem kk_dbl (k : Nat) : ((k + k : Nat) : Int) / 2 = k := by omega
theorem kk_lim {n m x : Int} {k : Nat} (h2 : n ≤ m) (hm : m = 2 * x) (h : n ≤ ((k + k : Nat) : Int)) (h' : ((k + k : Nat) : Int) ≤ n + 1) : (k : Int) ≤ x := by omega
theorem kk_pre {n : Int} {k : Nat} (hn : 0 < n) (h : (n + 1).toNat = k + k) : n.toNat = k + k - 1 := by omega
theorem kk_pow (d : Nat) : (4000 : Int) * 2 ^ (d + 1) = 2 * (4000 * 2 ^ d) := by rw [Int.pow_succ, Int.mul_comm (2 ^ d), ← Int.mul_assoc, ← Int.mul_assoc]; rfl
theorem kk_even {n : Int} {k d : Nat} (h0 : 0 < k) (h1 : n ≤ 2 ^ 20) (h2 : n ≤ 4000 * 2 ^ (d + 1)) (h : n = ((k + k : Nat) : Int)) : n.toNat = k + k ∧ n / 2 = (k : Int) ∧ 0 < (k : Int) ∧ (k : Int) ≤ 1048576 ∧ (k : Int) ≤ 4000 * 2 ^ d :=
  have e := Int.le_of_eq h
  have e' := Int.le_trans (Int.le_of_eq h.symm) (Int.le_add_one (Int.le_refl n))
  ⟨by rw [h]; exact Int.toNat_natCast _, by rw [h]; exact kk_dbl k, Int.natCast_pos.mpr h0, Int.le_trans (kk_lim h1 (x := 524288) rfl e e') (by decide), kk_lim h2 (kk_pow d) e e'⟩
theorem kk_odd {n : Int} {k d : Nat} (hn : 0 < n) (h0 : 0 < k) (h1 : n ≤ 2 ^ 20) (h2 : n ≤ 4000 * 2 ^ (d + 1)) (h : n + 1 = ((k + k : Nat) : Int)) : n.toNat = k + k - 1 ∧ (n + 1).toNat = k + k ∧ (n + 1) / 2 = (k : Int) ∧ 0 < (k : Int) ∧ (k : Int) ≤ 1048576 ∧ (k : Int) ≤ 4000 * 2 ^ d ∧ n + 1 ≤ 1048577 ∧ 0 ≤ n + 1 :=
  have e := Int.le_of_eq h.symm
  have e' := Int.le_trans (Int.le_add_one (Int.le_refl n)) (Int.le_of_eq h)
  have f : (n + 1).toNat = k + k := by rw [h]; exact Int.toNat_natCast _
  ⟨kk_pre hn f, f, by rw [h]; exact kk_dbl k, Int.natCast_pos.mpr h0, Int.le_trans (kk_lim h1 (x := 524288) rfl e' e) (by decide), kk_lim h2 (kk_pow d) e' e, Int.add_le_add_right h1 1, Int.le_add_one (Int.le_of_lt hn)⟩
theorem kk_room {x : Nat} {k : Int} (h : (x : Int) ≤ k) (h1 : k ≤ 1048576) : (x : Int) + k ≤ 134217728 := by omega
theorem kk_one {k : Int} (h1 : k ≤ 1048576) : ((1 : Nat) : Int) + k ≤ 134217728 := by omega
theorem kk_up {x : Nat} {n : Int} (h : (x : Int) ≤ 2 * n) (h1 : n + 1 ≤ 1048577) : (x : Int) + 1 ≤ 134217728 := by omega
theorem kk_up1 {x : Nat} {n : Int} (h0 : 0 < n) (h : (x : Int) = n) (h1 : n + 1 ≤ 1048577) : (x : Int) + 1 ≤ 134217728 := by omega
theorem pos_of {p b : Int} (h : 0 < p) (h1 : p ≤ b) : 0 < b := Int.lt_of_lt_of_le h h1
theorem half2 (x : Int) : 2 * x / 2 = x := Int.mul_ediv_cancel_left x (by decide)
theorem pos2 {x : Int} (h : 0 < x) : 0 < x * 2 := Int.mul_pos h (by decide)
theorem nn2 {x : Int} (h : 0 ≤ x) : 0 ≤ x * 2 := Int.mul_nonneg h (by decide)
theorem le2 {x : Int} (h : 0 < x) : x ≤ x * 2 := Int.le_trans (Int.le_of_eq (Int.mul_one x).symm) (Int.mul_le_mul_of_nonneg_left (by decide) (Int.le_of_lt h))
theorem up2 {x y : Int} (h : x ≤ y) : x * 2 ≤ y * 2 := Int.mul_le_mul_of_nonneg_right h (by decide)
theorem up2' {x y : Int} (h : x < y) : x * 2 < y * 2 := Int.mul_lt_mul_of_pos_right h (by decide)
theorem bits2 {x : Nat} {n : Int} (hn : 0 < n) (h : (x : Int) ≤ ((n.toNat + n.toNat : Nat) : Int)) : (x : Int) ≤ 2 * n := by omega
theorem kk_pos {k : Nat} (h : 0 < k) : 0 < k + k - 1 := by omega
theorem ev_k {n : Int} (hn : 0 < n) (h : n % 2 = 0) : 0 < (n / 2).toNat ∧ n = (((n / 2).toNat + (n / 2).toNat : Nat) : Int) := by omega
theorem od_k {n : Int} (hn : 0 < n) (h : n % 2 = 1) : 0 < ((n + 1) / 2).toNat ∧ n + 1 = ((((n + 1) / 2).toNat + ((n + 1) / 2).toNat : Nat) : Int) := by omega
theorem zle1 : (0 : Int) ≤ 1 := by decide
section
variable (w : World) (p : Program) (loose : List Str) (mean : ExcName → Option Value) (mg mb : Str → Option Value)
theorem d2_base {a b n : Int} {dd uu : Nat} (ta tb tn : Tok) (news : Led) (hn : 0 < n) (hb1 : (2 : Int) ^ (n.toNat - 1) ≤ b) (hb2 : b < 2 ^ n.toNat) (hs : (Builtin.Int.intBits a : Int) - n ≤ 4000) (hdd : 1 ≤ dd) (huu : 8 ≤ uu) :
    CallOk w p loose mean mg mb 28 [.int a ta, .int b tb, .int n tn] dd uu news (Pair2 news (a / b) (a % b)) := by
  unfold CallOk
  intro dp un gd cn cs a' ccd cl outer A₀ base h₀ L m s Q E B F X N T hk hd hu hret
  have hpn := pow_pos' (n.toNat - 1)
  have hb0 : 0 < b := by omega
  have hbn := intBits_eq hn hb1 hb2
  refine wpAny_call ?_
  (k_dflt ktr_enter)
  walk_at "STEPS"
  all_goals (first | (with_reducible show Pre _) | refine ret_pair hret (by k_asm) (by k_asm) (by k_mem) (by walk_at "SUB") (by walk_at "LT") ?_)
  all_goals (unfold Pre)
  all_goals (first | omega | (with_reducible exact ⟨rfl, rfl⟩))
end
namespace Cd2evenI
noncomputable def Pq (w : World) (p : Program) (loose : List Str) (mean : ExcName → Option Value) (mg : Str → Option Value) (mb : Str → Option Value) (d : Nat) (a : Int) (b : Int) (n : Int) (ta : Tok) (tb : Tok) (tn : Tok) (news : Led) (k : Nat) (dp : Nat) (un : Nat) (gd : Option (List Code)) (cn : Str) (cs : Scope) (a' : Addr) (ccd : Value) (cl : List (Str × Addr)) (outer : List Env) (A₀ : Around) (base : Heap) (h₀ : Heap) (L : Addr) (m : Str → Option Value) (s : Shared) (Q : Value → Shared → Prop) (E : Value → Shared → Prop) : Prop := ∀ (H3 : D3 w p loose mean mg mb d) (ha : 0 ≤ a) (hn : 0 < n) (hn20 : n ≤ 2 ^ 20) (hnd : n ≤ 4000 * 2 ^ (d + 1)) (hb1 : (2 : Int) ^ (n.toNat - 1) ≤ b) (hb2 : b < 2 ^ n.toNat) (hab : a < b * 2 ^ n.toNat) (hs : ¬ (Builtin.Int.intBits a : Int) - n ≤ 4000) (hk0 : 0 < k) (hp0 : Builtin.bitAnd n 1 = 0) (hnk : n = ((k + k : Nat) : Int)) (B : Below A₀ base outer h₀) (F : Fr h₀ L s.heap m) (X : (hd.heap_39 w.params).In h₀) (N : News h₀ L s.heap news) (T : Top p loose mean mg mb h₀) (hk : cs.kind = .function) (hd : dp + (2 * (d + 1) + 1) < recursionLimit) (hu : un + (16 * (d + 1) + 8) < cLine) (hret : ∀ r news' h' tk', Fr h₀ L h' m → News h₀ L h' news' → (Pair2 news (a / b) (a % b)) r news' → Q r { s with heap := h', toks := tk' }),
    wpAny (model PySem.Challenge.pw_sr0065_01 w) (ktrTop dp un gd cn cs L a' ccd cl outer) (call (.ref 28) [.int a ta, .int b tb, .int n tn]) Q E s
noncomputable abbrev Tq : Type := (((((World × Program) × ((List Str) × (ExcName → Option Value))) × (((Str → Option Value) × (Str → Option Value)) × (Nat × Int))) × (((Int × Int) × (Tok × Tok)) × ((Tok × Led) × (Nat × Nat)))) × ((((Nat × (Option (List Code))) × (Str × Scope)) × ((Addr × Value) × ((List (Str × Addr)) × (List Env)))) × (((Around × Heap) × (Heap × Addr)) × (((Str → Option Value) × Shared) × ((Value → Shared → Prop) × (Value → Shared → Prop))))))
theorem exq : ∃ t : Tq, Pq t.1.1.1.1.1 t.1.1.1.1.2 t.1.1.1.2.1 t.1.1.1.2.2 t.1.1.2.1.1 t.1.1.2.1.2 t.1.1.2.2.1 t.1.1.2.2.2 t.1.2.1.1.1 t.1.2.1.1.2 t.1.2.1.2.1 t.1.2.1.2.2 t.1.2.2.1.1 t.1.2.2.1.2 t.1.2.2.2.1 t.1.2.2.2.2 t.2.1.1.1.1 t.2.1.1.1.2 t.2.1.1.2.1 t.2.1.1.2.2 t.2.1.2.1.1 t.2.1.2.1.2 t.2.1.2.2.1 t.2.1.2.2.2 t.2.2.1.1.1 t.2.2.1.1.2 t.2.2.1.2.1 t.2.2.1.2.2 t.2.2.2.1.1 t.2.2.2.1.2 t.2.2.2.2.1 t.2.2.2.2.2 → ∀ t : Tq, Pq t.1.1.1.1.1 t.1.1.1.1.2 t.1.1.1.2.1 t.1.1.1.2.2 t.1.1.2.1.1 t.1.1.2.1.2 t.1.1.2.2.1 t.1.1.2.2.2 t.1.2.1.1.1 t.1.2.1.1.2 t.1.2.1.2.1 t.1.2.1.2.2 t.1.2.2.1.1 t.1.2.2.1.2 t.1.2.2.2.1 t.1.2.2.2.2 t.2.1.1.1.1 t.2.1.1.1.2 t.2.1.1.2.1 t.2.1.1.2.2 t.2.1.2.1.1 t.2.1.2.1.2 t.2.1.2.2.1 t.2.1.2.2.2 t.2.2.1.1.1 t.2.2.1.1.2 t.2.2.1.2.1 t.2.2.1.2.2 t.2.2.2.1.1 t.2.2.2.1.2 t.2.2.2.2.1 t.2.2.2.2.2 := dk (α := Tq) ((((((aWorld 0, default), (default, (fun _ => default))), (((fun _ => default), (fun _ => default)), (default, default))), (((default, default), (default, default)), ((default, default), (default, default)))), ((((default, default), (default, default)), ((default, default), (default, default))), (((({} : Around), default), (default, default)), (((fun _ => default), ({} : Shared)), ((fun _ _ => True), (fun _ _ => True))))))) _
noncomputable def cq : Tq := Classical.choose exq
@[irreducible] noncomputable def w : World := cq.1.1.1.1.1
@[irreducible] noncomputable def p : Program := cq.1.1.1.1.2
@[irreducible] noncomputable def loose : List Str := cq.1.1.1.2.1
@[irreducible] noncomputable def mean : ExcName → Option Value := cq.1.1.1.2.2
@[irreducible] noncomputable def mg : Str → Option Value := cq.1.1.2.1.1
@[irreducible] noncomputable def mb : Str → Option Value := cq.1.1.2.1.2
@[irreducible] noncomputable def d : Nat := cq.1.1.2.2.1
@[irreducible] noncomputable def a : Int := cq.1.1.2.2.2
@[irreducible] noncomputable def b : Int := cq.1.2.1.1.1
@[irreducible] noncomputable def n : Int := cq.1.2.1.1.2
@[irreducible] noncomputable def ta : Tok := cq.1.2.1.2.1
@[irreducible] noncomputable def tb : Tok := cq.1.2.1.2.2
@[irreducible] noncomputable def tn : Tok := cq.1.2.2.1.1
@[irreducible] noncomputable def news : Led := cq.1.2.2.1.2
@[irreducible] noncomputable def k : Nat := cq.1.2.2.2.1
@[irreducible] noncomputable def dp : Nat := cq.1.2.2.2.2
@[irreducible] noncomputable def un : Nat := cq.2.1.1.1.1
@[irreducible] noncomputable def gd : Option (List Code) := cq.2.1.1.1.2
@[irreducible] noncomputable def cn : Str := cq.2.1.1.2.1
@[irreducible] noncomputable def cs : Scope := cq.2.1.1.2.2
@[irreducible] noncomputable def a' : Addr := cq.2.1.2.1.1
@[irreducible] noncomputable def ccd : Value := cq.2.1.2.1.2
@[irreducible] noncomputable def cl : List (Str × Addr) := cq.2.1.2.2.1
@[irreducible] noncomputable def outer : List Env := cq.2.1.2.2.2
@[irreducible] noncomputable def A₀ : Around := cq.2.2.1.1.1
@[irreducible] noncomputable def base : Heap := cq.2.2.1.1.2
@[irreducible] noncomputable def h₀ : Heap := cq.2.2.1.2.1
@[irreducible] noncomputable def L : Addr := cq.2.2.1.2.2
@[irreducible] noncomputable def m : Str → Option Value := cq.2.2.2.1.1
@[irreducible] noncomputable def s : Shared := cq.2.2.2.1.2
@[irreducible] noncomputable def Q : Value → Shared → Prop := cq.2.2.2.2.1
@[irreducible] noncomputable def E : Value → Shared → Prop := cq.2.2.2.2.2
noncomputable def cutq : {G : Prop // (∀ (H3 : D3 w p loose mean mg mb d) (ha : 0 ≤ a) (hn : 0 < n) (hn20 : n ≤ 2 ^ 20) (hnd : n ≤ 4000 * 2 ^ (d + 1)) (hb1 : (2 : Int) ^ (n.toNat - 1) ≤ b) (hb2 : b < 2 ^ n.toNat) (hab : a < b * 2 ^ n.toNat) (hs : ¬ (Builtin.Int.intBits a : Int) - n ≤ 4000) (hk0 : 0 < k) (hp0 : Builtin.bitAnd n 1 = 0) (hnk : n = ((k + k : Nat) : Int)) (B : Below A₀ base outer h₀) (F : Fr h₀ L s.heap m) (X : (hd.heap_39 w.params).In h₀) (N : News h₀ L s.heap news) (T : Top p loose mean mg mb h₀) (hk : cs.kind = .function) (hd : dp + (2 * (d + 1) + 1) < recursionLimit) (hu : un + (16 * (d + 1) + 8) < cLine) (hret : ∀ r news' h' tk', Fr h₀ L h' m → News h₀ L h' news' → (Pair2 news (a / b) (a % b)) r news' → Q r { s with heap := h', toks := tk' }), G) → Pq w p loose mean mg mb d a b n ta tb tn news k dp un gd cn cs a' ccd cl outer A₀ base h₀ L m s Q E} := ⟨_, fun h9z => by
  unfold Pq
  intro H3 ha hn hn20 hnd hb1 hb2 hab hs hk0 hp0 hnk B F X N T hk hd hu hret
  have h9y := fun (_ : Unit) => h9z H3 ha hn hn20 hnd hb1 hb2 hab hs hk0 hp0 hnk B F X N T hk hd hu hret
  refine wpAny_call ?_
  (k_dflt ktr_enter)
  rename_i gz Lz hz FGz Fz Nz Bz Xz Tz
  clear_value (hqz : qk = _) (hez : ek = _)
  revert hez
  revert hqz
  revert Tz
  revert Xz
  revert Bz
  revert Nz
  revert Fz
  revert FGz
  revert ek
  revert qk
  revert hz
  revert Lz
  revert gz
  exact h9y ()⟩
noncomputable def pcq : {Pc : Heap → Addr → Heap → (Flow → Shared → Prop) → (Value → Shared → Prop) → Prop // (∀ a b c d e, Pc a b c d e) → cutq.1} := ⟨_, fun h => h⟩
theorem exc : ∃ t : (((Heap × Addr) × Heap) × ((Flow → Shared → Prop) × (Value → Shared → Prop))), pcq.1 t.1.1.1 t.1.1.2 t.1.2 t.2.1 t.2.2 → ∀ t : (((Heap × Addr) × Heap) × ((Flow → Shared → Prop) × (Value → Shared → Prop))), pcq.1 t.1.1.1 t.1.1.2 t.1.2 t.2.1 t.2.2 := dk (α := (((Heap × Addr) × Heap) × ((Flow → Shared → Prop) × (Value → Shared → Prop)))) (((default, default), default), ((fun _ _ => True), (fun _ _ => True))) _
noncomputable def ccq : (((Heap × Addr) × Heap) × ((Flow → Shared → Prop) × (Value → Shared → Prop))) := Classical.choose exc
@[irreducible] noncomputable def gz : Heap := ccq.1.1.1
@[irreducible] noncomputable def Lz : Addr := ccq.1.1.2
@[irreducible] noncomputable def hz : Heap := ccq.1.2
@[irreducible] noncomputable def qz : (Flow → Shared → Prop) := ccq.2.1
@[irreducible] noncomputable def ez : (Value → Shared → Prop) := ccq.2.2
theorem core2 (H3 : D3 w p loose mean mg mb d) (ha : 0 ≤ a) (hn : 0 < n) (hn20 : n ≤ 2 ^ 20) (hnd : n ≤ 4000 * 2 ^ (d + 1)) (hb1 : (2 : Int) ^ (n.toNat - 1) ≤ b) (hb2 : b < 2 ^ n.toNat) (hab : a < b * 2 ^ n.toNat) (hs : ¬ (Builtin.Int.intBits a : Int) - n ≤ 4000) (hk0 : 0 < k) (hp0 : Builtin.bitAnd n 1 = 0) (hnk : n = ((k + k : Nat) : Int)) (B : Below A₀ base outer h₀) (F : Fr h₀ L s.heap m) (X : (hd.heap_39 w.params).In h₀) (N : News h₀ L s.heap news) (T : Top p loose mean mg mb h₀) (hk : cs.kind = .function) (hd : dp + (2 * (d + 1) + 1) < recursionLimit) (hu : un + (16 * (d + 1) + 8) < cLine) (hret : ∀ r news' h' tk', Fr h₀ L h' m → News h₀ L h' news' → (Pair2 news (a / b) (a % b)) r news' → Q r { s with heap := h', toks := tk' }) : pcq.1 gz Lz hz qz ez := by
  have hpn := pow_pos' (n.toNat - 1)
  have hb0 : 0 < b := pos_of hpn hb1
  obtain ⟨en, en2, k1, k2, k3⟩ := kk_even hk0 hn20 hnd hnk
  rw [en] at hb1 hb2 hab
  obtain ⟨_, f1, f2, f3, f4, f5, f6, f7, f8, f9, f10, f11, f12⟩ := half_facts ha hk0 hb1 hb2 hab
  obtain ⟨g1, g2, g3, g4, g5, g6, g7, g8, g9⟩ := split_div (k := k) ha hb0
  have ma := bitAnd_mask ha k
  have mb' := bitAnd_mask (Int.le_of_lt hb0) k
  have mc := bitAnd_mask (show 0 ≤ a / 2 ^ k from Int.ediv_nonneg ha (Int.le_of_lt (pow_pos' k))) k
  have md := lt_pow_bits f11 f12
  have me := bitOr_hilo (k := k) f11 g4 g5
  have mf : Builtin.Int.intBits 1 = 1 := by decide
  have mh := kk_room md k2
  intro FGz Fz Nz Bz Xz Tz hqz hez
  walk_at "STEPS"
  all_goals (try ((k_here; (with_reducible show wpAny _ _ (call (Value.ref 35) _) _ _ _); (with_reducible rename D3 _ _ _ _ _ _ _ => h3q3); k_dflt (refine' CallOk.use (h3q3 _ _ _ _ _ _ _ _ _ _ _ _ _ ?preq3) ?k1q3 ?k2q3 ?k3q3 ?k4q3 ?k5q3 ?k6q3 ?k7q3 ?k8q3 ?_); (((case k1q3 | k2q3 | k3q3 | k4q3 | k5q3 => k_asm); (case k6q3 => first | exact rfl | assumption); (case k7q3 => ktr_room); (case k8q3 => ktr_units))); rotate_left; (intro r9q3 n9q3 h9q3 tk9q3 F9q3 N9q3 hO9q3; obtain ⟨x9q3, tq9q3, tr9q3, e9q3, e99q3, lt9q3⟩ := hO9q3; subst e9q3 e99q3; (try dsimp only); (try k_fold)))))
  all_goals (try walk_at "STEPS")
  all_goals (try ((k_here; (with_reducible show wpAny _ _ (call (Value.ref 35) _) _ _ _); (with_reducible rename D3 _ _ _ _ _ _ _ => h3q4); k_dflt (refine' CallOk.use (h3q4 _ _ _ _ _ _ _ _ _ _ _ _ _ ?preq4) ?k1q4 ?k2q4 ?k3q4 ?k4q4 ?k5q4 ?k6q4 ?k7q4 ?k8q4 ?_); (((case k1q4 | k2q4 | k3q4 | k4q4 | k5q4 => k_asm); (case k6q4 => first | exact rfl | assumption); (case k7q4 => ktr_room); (case k8q4 => ktr_units))); rotate_left; (intro r9q4 n9q4 h9q4 tk9q4 F9q4 N9q4 hO9q4; obtain ⟨x9q4, tq9q4, tr9q4, e9q4, e99q4, lt9q4⟩ := hO9q4; subst e9q4 e99q4; (try dsimp only); (try k_fold)))))
  all_goals (try walk_at "STEPS")
  all_goals (try (rw [hqz]; (try dsimp only); walk_at "STEPS"))
  all_goals (first | (with_reducible show Pre _) | refine ret_pair hret (by k_asm) (by k_asm) (by k_mem) (by walk_at "SUB") (by walk_at "LT") ?_)
  all_goals (try simp only [Int.reduceToNat, Int.reducePow, en, en2, Int.toNat_natCast, Int.one_mul, ma, mb', mc, f10, me, mf])
  all_goals (unfold Pre)
  all_goals (first | (with_reducible exact zle1) | (with_reducible exact Int.le_of_lt k1) | (with_reducible exact Int.le_of_lt hn) | (with_reducible exact kk_one k2) | (with_reducible exact mh) | exact ⟨g1, g2⟩ | exact ⟨f1, f3, f4, k1, k2, k3, f5, f6, f7, f8, f9, f2⟩ | exact ⟨g6, g8, g9, k1, k2, k3, f5, f6, f7, f8, f9, g7⟩)
theorem coreq : Pq w p loose mean mg mb d a b n ta tb tn news k dp un gd cn cs a' ccd cl outer A₀ base h₀ L m s Q E := by
  with_unfolding_all exact cutq.2 fun H3 ha hn hn20 hnd hb1 hb2 hab hs hk0 hp0 hnk B F X N T hk hd hu hret => pcq.2 fun a b c d e => Classical.choose_spec exc (core2 H3 ha hn hn20 hnd hb1 hb2 hab hs hk0 hp0 hnk B F X N T hk hd hu hret) (((a, b), c), (d, e))
theorem allq (w : World) (p : Program) (loose : List Str) (mean : ExcName → Option Value) (mg : Str → Option Value) (mb : Str → Option Value) (d : Nat) (a : Int) (b : Int) (n : Int) (ta : Tok) (tb : Tok) (tn : Tok) (news : Led) (k : Nat) (dp : Nat) (un : Nat) (gd : Option (List Code)) (cn : Str) (cs : Scope) (a' : Addr) (ccd : Value) (cl : List (Str × Addr)) (outer : List Env) (A₀ : Around) (base : Heap) (h₀ : Heap) (L : Addr) (m : Str → Option Value) (s : Shared) (Q : Value → Shared → Prop) (E : Value → Shared → Prop) : Pq w p loose mean mg mb d a b n ta tb tn news k dp un gd cn cs a' ccd cl outer A₀ base h₀ L m s Q E := by
  with_unfolding_all exact Classical.choose_spec exq coreq (((((w, p), (loose, mean)), ((mg, mb), (d, a))), (((b, n), (ta, tb)), ((tn, news), (k, dp)))), ((((un, gd), (cn, cs)), ((a', ccd), (cl, outer))), (((A₀, base), (h₀, L)), ((m, s), (Q, E)))))
end Cd2evenI
section
variable (w : World) (p : Program) (loose : List Str) (mean : ExcName → Option Value) (mg mb : Str → Option Value)
theorem d2_evenI {d : Nat} (H3 : D3 w p loose mean mg mb d) {a b n : Int} (ta tb tn : Tok) (news : Led) (ha : 0 ≤ a) (hn : 0 < n) (hn20 : n ≤ 2 ^ 20) (hnd : n ≤ 4000 * 2 ^ (d + 1)) (hb1 : (2 : Int) ^ (n.toNat - 1) ≤ b) (hb2 : b < 2 ^ n.toNat) (hab : a < b * 2 ^ n.toNat)
    (hs : ¬ (Builtin.Int.intBits a : Int) - n ≤ 4000) {k : Nat} (hk0 : 0 < k) (hp0 : Builtin.bitAnd n 1 = 0) (hnk : n = ((k + k : Nat) : Int)) {dp : Nat} {un : Nat} {gd : Option (List Code)} {cn : Str} {cs : Scope} {a' : Addr} {ccd : Value} {cl : List (Str × Addr)} {outer : List Env} {A₀ : Around} {base : Heap} {h₀ : Heap} {L : Addr} {m : Str → Option Value} {s : Shared} {Q : Value → Shared → Prop} {E : Value → Shared → Prop}
    (B : Below A₀ base outer h₀) (F : Fr h₀ L s.heap m) (X : (hd.heap_39 w.params).In h₀) (N : News h₀ L s.heap news) (T : Top p loose mean mg mb h₀) (hk : cs.kind = .function) (hd : dp + (2 * (d + 1) + 1) < recursionLimit) (hu : un + (16 * (d + 1) + 8) < cLine) (hret : ∀ r news' h' tk', Fr h₀ L h' m → News h₀ L h' news' → (Pair2 news (a / b) (a % b)) r news' → Q r { s with heap := h', toks := tk' }) :
    wpAny (model PySem.Challenge.pw_sr0065_01 w) (ktrTop dp un gd cn cs L a' ccd cl outer) (call (.ref 28) [.int a ta, .int b tb, .int n tn]) Q E s :=
  Cd2evenI.allq w p loose mean mg mb d a b n ta tb tn news k dp un gd cn cs a' ccd cl outer A₀ base h₀ L m s Q E H3 ha hn hn20 hnd hb1 hb2 hab hs hk0 hp0 hnk B F X N T hk hd hu hret
theorem d2_even {d : Nat} (H3 : D3 w p loose mean mg mb d) {a b n : Int} (ta tb tn : Tok) (news : Led) (ha : 0 ≤ a) (hn : 0 < n) (hn20 : n ≤ 2 ^ 20) (hnd : n ≤ 4000 * 2 ^ (d + 1)) (hb1 : (2 : Int) ^ (n.toNat - 1) ≤ b) (hb2 : b < 2 ^ n.toNat) (hab : a < b * 2 ^ n.toNat)
    (hs : ¬ (Builtin.Int.intBits a : Int) - n ≤ 4000) {k : Nat} (hk0 : 0 < k) (hp0 : Builtin.bitAnd n 1 = 0) (hnk : n = ((k + k : Nat) : Int)) :
    CallOk w p loose mean mg mb 28 [.int a ta, .int b tb, .int n tn] (2 * (d + 1) + 1) (16 * (d + 1) + 8) news (Pair2 news (a / b) (a % b)) := by
  unfold CallOk
  intro dp un gd cn cs a' ccd cl outer A₀ base h₀ L m s Q E B F X N T hk hd hu hret
  exact d2_evenI w p loose mean mg mb (d := d) H3 (a := a) (b := b) (n := n) ta tb tn news ha hn hn20 hnd hb1 hb2 hab hs (k := k) hk0 hp0 hnk B F X N T hk hd hu hret
end
namespace Cd2oddI
noncomputable def Pq (w : World) (p : Program) (loose : List Str) (mean : ExcName → Option Value) (mg : Str → Option Value) (mb : Str → Option Value) (d : Nat) (a : Int) (b : Int) (n : Int) (ta : Tok) (tb : Tok) (tn : Tok) (news : Led) (k : Nat) (dp : Nat) (un : Nat) (gd : Option (List Code)) (cn : Str) (cs : Scope) (a' : Addr) (ccd : Value) (cl : List (Str × Addr)) (outer : List Env) (A₀ : Around) (base : Heap) (h₀ : Heap) (L : Addr) (m : Str → Option Value) (s : Shared) (Q : Value → Shared → Prop) (E : Value → Shared → Prop) : Prop := ∀ (H3 : D3 w p loose mean mg mb d) (ha : 0 ≤ a) (hn : 0 < n) (hn20 : n ≤ 2 ^ 20) (hnd : n ≤ 4000 * 2 ^ (d + 1)) (hb1 : (2 : Int) ^ (n.toNat - 1) ≤ b) (hb2 : b < 2 ^ n.toNat) (hab : a < b * 2 ^ n.toNat) (hs : ¬ (Builtin.Int.intBits a : Int) - n ≤ 4000) (hk0 : 0 < k) (hp1 : Builtin.bitAnd n 1 = 1) (hnk : n + 1 = ((k + k : Nat) : Int)) (B : Below A₀ base outer h₀) (F : Fr h₀ L s.heap m) (X : (hd.heap_39 w.params).In h₀) (N : News h₀ L s.heap news) (T : Top p loose mean mg mb h₀) (hk : cs.kind = .function) (hd : dp + (2 * (d + 1) + 1) < recursionLimit) (hu : un + (16 * (d + 1) + 8) < cLine) (hret : ∀ r news' h' tk', Fr h₀ L h' m → News h₀ L h' news' → (Pair2 news (a / b) (a % b)) r news' → Q r { s with heap := h', toks := tk' }),
    wpAny (model PySem.Challenge.pw_sr0065_01 w) (ktrTop dp un gd cn cs L a' ccd cl outer) (call (.ref 28) [.int a ta, .int b tb, .int n tn]) Q E s
noncomputable abbrev Tq : Type := (((((World × Program) × ((List Str) × (ExcName → Option Value))) × (((Str → Option Value) × (Str → Option Value)) × (Nat × Int))) × (((Int × Int) × (Tok × Tok)) × ((Tok × Led) × (Nat × Nat)))) × ((((Nat × (Option (List Code))) × (Str × Scope)) × ((Addr × Value) × ((List (Str × Addr)) × (List Env)))) × (((Around × Heap) × (Heap × Addr)) × (((Str → Option Value) × Shared) × ((Value → Shared → Prop) × (Value → Shared → Prop))))))
theorem exq : ∃ t : Tq, Pq t.1.1.1.1.1 t.1.1.1.1.2 t.1.1.1.2.1 t.1.1.1.2.2 t.1.1.2.1.1 t.1.1.2.1.2 t.1.1.2.2.1 t.1.1.2.2.2 t.1.2.1.1.1 t.1.2.1.1.2 t.1.2.1.2.1 t.1.2.1.2.2 t.1.2.2.1.1 t.1.2.2.1.2 t.1.2.2.2.1 t.1.2.2.2.2 t.2.1.1.1.1 t.2.1.1.1.2 t.2.1.1.2.1 t.2.1.1.2.2 t.2.1.2.1.1 t.2.1.2.1.2 t.2.1.2.2.1 t.2.1.2.2.2 t.2.2.1.1.1 t.2.2.1.1.2 t.2.2.1.2.1 t.2.2.1.2.2 t.2.2.2.1.1 t.2.2.2.1.2 t.2.2.2.2.1 t.2.2.2.2.2 → ∀ t : Tq, Pq t.1.1.1.1.1 t.1.1.1.1.2 t.1.1.1.2.1 t.1.1.1.2.2 t.1.1.2.1.1 t.1.1.2.1.2 t.1.1.2.2.1 t.1.1.2.2.2 t.1.2.1.1.1 t.1.2.1.1.2 t.1.2.1.2.1 t.1.2.1.2.2 t.1.2.2.1.1 t.1.2.2.1.2 t.1.2.2.2.1 t.1.2.2.2.2 t.2.1.1.1.1 t.2.1.1.1.2 t.2.1.1.2.1 t.2.1.1.2.2 t.2.1.2.1.1 t.2.1.2.1.2 t.2.1.2.2.1 t.2.1.2.2.2 t.2.2.1.1.1 t.2.2.1.1.2 t.2.2.1.2.1 t.2.2.1.2.2 t.2.2.2.1.1 t.2.2.2.1.2 t.2.2.2.2.1 t.2.2.2.2.2 := dk (α := Tq) ((((((aWorld 0, default), (default, (fun _ => default))), (((fun _ => default), (fun _ => default)), (default, default))), (((default, default), (default, default)), ((default, default), (default, default)))), ((((default, default), (default, default)), ((default, default), (default, default))), (((({} : Around), default), (default, default)), (((fun _ => default), ({} : Shared)), ((fun _ _ => True), (fun _ _ => True))))))) _
noncomputable def cq : Tq := Classical.choose exq
@[irreducible] noncomputable def w : World := cq.1.1.1.1.1
@[irreducible] noncomputable def p : Program := cq.1.1.1.1.2
@[irreducible] noncomputable def loose : List Str := cq.1.1.1.2.1
@[irreducible] noncomputable def mean : ExcName → Option Value := cq.1.1.1.2.2
@[irreducible] noncomputable def mg : Str → Option Value := cq.1.1.2.1.1
@[irreducible] noncomputable def mb : Str → Option Value := cq.1.1.2.1.2
@[irreducible] noncomputable def d : Nat := cq.1.1.2.2.1
@[irreducible] noncomputable def a : Int := cq.1.1.2.2.2
@[irreducible] noncomputable def b : Int := cq.1.2.1.1.1
@[irreducible] noncomputable def n : Int := cq.1.2.1.1.2
@[irreducible] noncomputable def ta : Tok := cq.1.2.1.2.1
@[irreducible] noncomputable def tb : Tok := cq.1.2.1.2.2
@[irreducible] noncomputable def tn : Tok := cq.1.2.2.1.1
@[irreducible] noncomputable def news : Led := cq.1.2.2.1.2
@[irreducible] noncomputable def k : Nat := cq.1.2.2.2.1
@[irreducible] noncomputable def dp : Nat := cq.1.2.2.2.2
@[irreducible] noncomputable def un : Nat := cq.2.1.1.1.1
@[irreducible] noncomputable def gd : Option (List Code) := cq.2.1.1.1.2
@[irreducible] noncomputable def cn : Str := cq.2.1.1.2.1
@[irreducible] noncomputable def cs : Scope := cq.2.1.1.2.2
@[irreducible] noncomputable def a' : Addr := cq.2.1.2.1.1
@[irreducible] noncomputable def ccd : Value := cq.2.1.2.1.2
@[irreducible] noncomputable def cl : List (Str × Addr) := cq.2.1.2.2.1
@[irreducible] noncomputable def outer : List Env := cq.2.1.2.2.2
@[irreducible] noncomputable def A₀ : Around := cq.2.2.1.1.1
@[irreducible] noncomputable def base : Heap := cq.2.2.1.1.2
@[irreducible] noncomputable def h₀ : Heap := cq.2.2.1.2.1
@[irreducible] noncomputable def L : Addr := cq.2.2.1.2.2
@[irreducible] noncomputable def m : Str → Option Value := cq.2.2.2.1.1
@[irreducible] noncomputable def s : Shared := cq.2.2.2.1.2
@[irreducible] noncomputable def Q : Value → Shared → Prop := cq.2.2.2.2.1
@[irreducible] noncomputable def E : Value → Shared → Prop := cq.2.2.2.2.2
noncomputable def cutq : {G : Prop // (∀ (H3 : D3 w p loose mean mg mb d) (ha : 0 ≤ a) (hn : 0 < n) (hn20 : n ≤ 2 ^ 20) (hnd : n ≤ 4000 * 2 ^ (d + 1)) (hb1 : (2 : Int) ^ (n.toNat - 1) ≤ b) (hb2 : b < 2 ^ n.toNat) (hab : a < b * 2 ^ n.toNat) (hs : ¬ (Builtin.Int.intBits a : Int) - n ≤ 4000) (hk0 : 0 < k) (hp1 : Builtin.bitAnd n 1 = 1) (hnk : n + 1 = ((k + k : Nat) : Int)) (B : Below A₀ base outer h₀) (F : Fr h₀ L s.heap m) (X : (hd.heap_39 w.params).In h₀) (N : News h₀ L s.heap news) (T : Top p loose mean mg mb h₀) (hk : cs.kind = .function) (hd : dp + (2 * (d + 1) + 1) < recursionLimit) (hu : un + (16 * (d + 1) + 8) < cLine) (hret : ∀ r news' h' tk', Fr h₀ L h' m → News h₀ L h' news' → (Pair2 news (a / b) (a % b)) r news' → Q r { s with heap := h', toks := tk' }), G) → Pq w p loose mean mg mb d a b n ta tb tn news k dp un gd cn cs a' ccd cl outer A₀ base h₀ L m s Q E} := ⟨_, fun h9z => by
  unfold Pq
  intro H3 ha hn hn20 hnd hb1 hb2 hab hs hk0 hp1 hnk B F X N T hk hd hu hret
  have h9y := fun (_ : Unit) => h9z H3 ha hn hn20 hnd hb1 hb2 hab hs hk0 hp1 hnk B F X N T hk hd hu hret
  refine wpAny_call ?_
  (k_dflt ktr_enter)
  rename_i gz Lz hz FGz Fz Nz Bz Xz Tz
  clear_value (hqz : qk = _) (hez : ek = _)
  revert hez
  revert hqz
  revert Tz
  revert Xz
  revert Bz
  revert Nz
  revert Fz
  revert FGz
  revert ek
  revert qk
  revert hz
  revert Lz
  revert gz
  exact h9y ()⟩
noncomputable def pcq : {Pc : Heap → Addr → Heap → (Flow → Shared → Prop) → (Value → Shared → Prop) → Prop // (∀ a b c d e, Pc a b c d e) → cutq.1} := ⟨_, fun h => h⟩
theorem exc : ∃ t : (((Heap × Addr) × Heap) × ((Flow → Shared → Prop) × (Value → Shared → Prop))), pcq.1 t.1.1.1 t.1.1.2 t.1.2 t.2.1 t.2.2 → ∀ t : (((Heap × Addr) × Heap) × ((Flow → Shared → Prop) × (Value → Shared → Prop))), pcq.1 t.1.1.1 t.1.1.2 t.1.2 t.2.1 t.2.2 := dk (α := (((Heap × Addr) × Heap) × ((Flow → Shared → Prop) × (Value → Shared → Prop)))) (((default, default), default), ((fun _ _ => True), (fun _ _ => True))) _
noncomputable def ccq : (((Heap × Addr) × Heap) × ((Flow → Shared → Prop) × (Value → Shared → Prop))) := Classical.choose exc
@[irreducible] noncomputable def gz : Heap := ccq.1.1.1
@[irreducible] noncomputable def Lz : Addr := ccq.1.1.2
@[irreducible] noncomputable def hz : Heap := ccq.1.2
@[irreducible] noncomputable def qz : (Flow → Shared → Prop) := ccq.2.1
@[irreducible] noncomputable def ez : (Value → Shared → Prop) := ccq.2.2
theorem core2 (H3 : D3 w p loose mean mg mb d) (ha : 0 ≤ a) (hn : 0 < n) (hn20 : n ≤ 2 ^ 20) (hnd : n ≤ 4000 * 2 ^ (d + 1)) (hb1 : (2 : Int) ^ (n.toNat - 1) ≤ b) (hb2 : b < 2 ^ n.toNat) (hab : a < b * 2 ^ n.toNat) (hs : ¬ (Builtin.Int.intBits a : Int) - n ≤ 4000) (hk0 : 0 < k) (hp1 : Builtin.bitAnd n 1 = 1) (hnk : n + 1 = ((k + k : Nat) : Int)) (B : Below A₀ base outer h₀) (F : Fr h₀ L s.heap m) (X : (hd.heap_39 w.params).In h₀) (N : News h₀ L s.heap news) (T : Top p loose mean mg mb h₀) (hk : cs.kind = .function) (hd : dp + (2 * (d + 1) + 1) < recursionLimit) (hu : un + (16 * (d + 1) + 8) < cLine) (hret : ∀ r news' h' tk', Fr h₀ L h' m → News h₀ L h' news' → (Pair2 news (a / b) (a % b)) r news' → Q r { s with heap := h', toks := tk' }) : pcq.1 gz Lz hz qz ez := by
  have hpn := pow_pos' (n.toNat - 1)
  have hb0 : 0 < b := pos_of hpn hb1
  obtain ⟨en, en', en2, k1, k2, k3, k4, k5⟩ := kk_odd hn hk0 hn20 hnd hnk
  have hbn := intBits_eq hn hb1 hb2
  have han : (Builtin.Int.intBits a : Int) ≤ 2 * n := by
    have h2 : a < 2 ^ (n.toNat + n.toNat) := by
      rw [pow_add']
      exact Int.lt_of_lt_of_le hab (Int.mul_le_mul_of_nonneg_right (Int.le_of_lt hb2) (Int.le_of_lt (pow_pos' n.toNat)))
    exact bits2 hn (lt_pow_bits ha h2)
  rw [en] at hb1 hb2 hab
  have hkk := pow_succ2 (k + k) (Nat.add_pos_left hk0 k)
  have hkk1 := pow_succ2 (k + k - 1) (kk_pos hk0)
  have hab0 := Int.mul_le_mul_of_nonneg_right (le2 hb0) (Int.le_of_lt (pow_pos' (k + k)))
  have hb1' : (2 : Int) ^ (k + k - 1) ≤ b * 2 := by rw [hkk1]; exact up2 hb1
  have hb2' : b * 2 < (2 : Int) ^ (k + k) := by rw [hkk]; exact up2' hb2
  have hab' : a * 2 < b * 2 * (2 : Int) ^ (k + k) := by
    refine Int.lt_of_lt_of_le ?_ hab0
    rw [hkk, ← Int.mul_assoc]; exact up2' hab
  have ha2 : 0 ≤ a * 2 := nn2 ha
  have hb2p : 0 < b * 2 := pos2 hb0
  obtain ⟨_, f1, f2, f3, f4, f5, f6, f7, f8, f9, f10, f11, f12⟩ := half_facts ha2 hk0 hb1' hb2' hab'
  obtain ⟨g1, g2, g3, g4, g5, g6, g7, g8, g9⟩ := split_div (k := k) ha2 hb2p
  have ma := bitAnd_mask ha2 k
  have mb' := bitAnd_mask (Int.le_of_lt hb2p) k
  have mc := bitAnd_mask (show 0 ≤ a * 2 / 2 ^ k from Int.ediv_nonneg ha2 (Int.le_of_lt (pow_pos' k))) k
  have md := lt_pow_bits f11 f12
  have me := bitOr_hilo (k := k) f11 g4 g5
  have mf : Builtin.Int.intBits 1 = 1 := by decide
  have mh := kk_room md k2
  have mg1 : a * 2 / (b * 2) = a / b := by rw [Int.mul_comm a, Int.mul_comm b]; exact Int.mul_ediv_mul_of_pos _ _ (by decide)
  have mg2 : a * 2 % (b * 2) / 2 = a % b := by rw [Int.mul_comm a, Int.mul_comm b, Int.mul_emod_mul_of_pos _ _ (by decide)]; exact half2 _
  intro FGz Fz Nz Bz Xz Tz hqz hez
  walk_at "STEPS"
  all_goals (try ((k_here; (with_reducible show wpAny _ _ (call (Value.ref 35) _) _ _ _); (with_reducible rename D3 _ _ _ _ _ _ _ => h3q6); k_dflt (refine' CallOk.use (h3q6 _ _ _ _ _ _ _ _ _ _ _ _ _ ?preq6) ?k1q6 ?k2q6 ?k3q6 ?k4q6 ?k5q6 ?k6q6 ?k7q6 ?k8q6 ?_); (((case k1q6 | k2q6 | k3q6 | k4q6 | k5q6 => k_asm); (case k6q6 => first | exact rfl | assumption); (case k7q6 => ktr_room); (case k8q6 => ktr_units))); rotate_left; (intro r9q6 n9q6 h9q6 tk9q6 F9q6 N9q6 hO9q6; obtain ⟨x9q6, tq9q6, tr9q6, e9q6, e99q6, lt9q6⟩ := hO9q6; subst e9q6 e99q6; (try dsimp only); (try k_fold)))))
  all_goals (try walk_at "STEPS")
  all_goals (try ((k_here; (with_reducible show wpAny _ _ (call (Value.ref 35) _) _ _ _); (with_reducible rename D3 _ _ _ _ _ _ _ => h3q7); k_dflt (refine' CallOk.use (h3q7 _ _ _ _ _ _ _ _ _ _ _ _ _ ?preq7) ?k1q7 ?k2q7 ?k3q7 ?k4q7 ?k5q7 ?k6q7 ?k7q7 ?k8q7 ?_); (((case k1q7 | k2q7 | k3q7 | k4q7 | k5q7 => k_asm); (case k6q7 => first | exact rfl | assumption); (case k7q7 => ktr_room); (case k8q7 => ktr_units))); rotate_left; (intro r9q7 n9q7 h9q7 tk9q7 F9q7 N9q7 hO9q7; obtain ⟨x9q7, tq9q7, tr9q7, e9q7, e99q7, lt9q7⟩ := hO9q7; subst e9q7 e99q7; (try dsimp only); (try k_fold)))))
  all_goals (try walk_at "STEPS")
  all_goals (try (rw [hqz]; (try dsimp only); walk_at "STEPS"))
  all_goals (first | (with_reducible show Pre _) | refine ret_pair hret (by k_asm) (by k_asm) (by k_mem) (by walk_at "SUB") (by walk_at "LT") ?_)
  all_goals (try simp only [Int.reduceToNat, Int.reducePow, en', en2, Int.toNat_natCast, Int.one_mul, ma, mb', mc, f10, me, mf, g2])
  all_goals (unfold Pre)
  all_goals (first | (with_reducible exact zle1) | (with_reducible exact Int.le_of_lt k1) | (with_reducible exact Int.le_of_lt hn) | (with_reducible exact kk_one k2) | (with_reducible exact mh) | (with_reducible exact k5) | (with_reducible exact kk_up han k4) | (with_reducible exact kk_up1 hn hbn k4) | exact ⟨g1.trans mg1, mg2⟩ | exact ⟨f1, f3, f4, k1, k2, k3, f5, f6, f7, f8, f9, f2⟩ | exact ⟨g6, g8, g9, k1, k2, k3, f5, f6, f7, f8, f9, g7⟩)
theorem coreq : Pq w p loose mean mg mb d a b n ta tb tn news k dp un gd cn cs a' ccd cl outer A₀ base h₀ L m s Q E := by
  with_unfolding_all exact cutq.2 fun H3 ha hn hn20 hnd hb1 hb2 hab hs hk0 hp1 hnk B F X N T hk hd hu hret => pcq.2 fun a b c d e => Classical.choose_spec exc (core2 H3 ha hn hn20 hnd hb1 hb2 hab hs hk0 hp1 hnk B F X N T hk hd hu hret) (((a, b), c), (d, e))
theorem allq (w : World) (p : Program) (loose : List Str) (mean : ExcName → Option Value) (mg : Str → Option Value) (mb : Str → Option Value) (d : Nat) (a : Int) (b : Int) (n : Int) (ta : Tok) (tb : Tok) (tn : Tok) (news : Led) (k : Nat) (dp : Nat) (un : Nat) (gd : Option (List Code)) (cn : Str) (cs : Scope) (a' : Addr) (ccd : Value) (cl : List (Str × Addr)) (outer : List Env) (A₀ : Around) (base : Heap) (h₀ : Heap) (L : Addr) (m : Str → Option Value) (s : Shared) (Q : Value → Shared → Prop) (E : Value → Shared → Prop) : Pq w p loose mean mg mb d a b n ta tb tn news k dp un gd cn cs a' ccd cl outer A₀ base h₀ L m s Q E := by
  with_unfolding_all exact Classical.choose_spec exq coreq (((((w, p), (loose, mean)), ((mg, mb), (d, a))), (((b, n), (ta, tb)), ((tn, news), (k, dp)))), ((((un, gd), (cn, cs)), ((a', ccd), (cl, outer))), (((A₀, base), (h₀, L)), ((m, s), (Q, E)))))
end Cd2oddI
section
variable (w : World) (p : Program) (loose : List Str) (mean : ExcName → Option Value) (mg mb : Str → Option Value)
theorem d2_oddI {d : Nat} (H3 : D3 w p loose mean mg mb d) {a b n : Int} (ta tb tn : Tok) (news : Led) (ha : 0 ≤ a) (hn : 0 < n) (hn20 : n ≤ 2 ^ 20) (hnd : n ≤ 4000 * 2 ^ (d + 1)) (hb1 : (2 : Int) ^ (n.toNat - 1) ≤ b) (hb2 : b < 2 ^ n.toNat) (hab : a < b * 2 ^ n.toNat)
    (hs : ¬ (Builtin.Int.intBits a : Int) - n ≤ 4000) {k : Nat} (hk0 : 0 < k) (hp1 : Builtin.bitAnd n 1 = 1) (hnk : n + 1 = ((k + k : Nat) : Int)) {dp : Nat} {un : Nat} {gd : Option (List Code)} {cn : Str} {cs : Scope} {a' : Addr} {ccd : Value} {cl : List (Str × Addr)} {outer : List Env} {A₀ : Around} {base : Heap} {h₀ : Heap} {L : Addr} {m : Str → Option Value} {s : Shared} {Q : Value → Shared → Prop} {E : Value → Shared → Prop}
    (B : Below A₀ base outer h₀) (F : Fr h₀ L s.heap m) (X : (hd.heap_39 w.params).In h₀) (N : News h₀ L s.heap news) (T : Top p loose mean mg mb h₀) (hk : cs.kind = .function) (hd : dp + (2 * (d + 1) + 1) < recursionLimit) (hu : un + (16 * (d + 1) + 8) < cLine) (hret : ∀ r news' h' tk', Fr h₀ L h' m → News h₀ L h' news' → (Pair2 news (a / b) (a % b)) r news' → Q r { s with heap := h', toks := tk' }) :
    wpAny (model PySem.Challenge.pw_sr0065_01 w) (ktrTop dp un gd cn cs L a' ccd cl outer) (call (.ref 28) [.int a ta, .int b tb, .int n tn]) Q E s :=
  Cd2oddI.allq w p loose mean mg mb d a b n ta tb tn news k dp un gd cn cs a' ccd cl outer A₀ base h₀ L m s Q E H3 ha hn hn20 hnd hb1 hb2 hab hs hk0 hp1 hnk B F X N T hk hd hu hret
theorem d2_odd {d : Nat} (H3 : D3 w p loose mean mg mb d) {a b n : Int} (ta tb tn : Tok) (news : Led) (ha : 0 ≤ a) (hn : 0 < n) (hn20 : n ≤ 2 ^ 20) (hnd : n ≤ 4000 * 2 ^ (d + 1)) (hb1 : (2 : Int) ^ (n.toNat - 1) ≤ b) (hb2 : b < 2 ^ n.toNat) (hab : a < b * 2 ^ n.toNat)
    (hs : ¬ (Builtin.Int.intBits a : Int) - n ≤ 4000) {k : Nat} (hk0 : 0 < k) (hp1 : Builtin.bitAnd n 1 = 1) (hnk : n + 1 = ((k + k : Nat) : Int)) :
    CallOk w p loose mean mg mb 28 [.int a ta, .int b tb, .int n tn] (2 * (d + 1) + 1) (16 * (d + 1) + 8) news (Pair2 news (a / b) (a % b)) := by
  unfold CallOk
  intro dp un gd cn cs a' ccd cl outer A₀ base h₀ L m s Q E B F X N T hk hd hu hret
  exact d2_oddI w p loose mean mg mb (d := d) H3 (a := a) (b := b) (n := n) ta tb tn news ha hn hn20 hnd hb1 hb2 hab hs (k := k) hk0 hp1 hnk B F X N T hk hd hu hret
end
theorem d2_step (w : World) (p : Program) (loose : List Str) (mean : ExcName → Option Value) (mg mb : Str → Option Value) (d : Nat)
    (H3 : D3 w p loose mean mg mb d) : D2 w p loose mean mg mb (d + 1) := by
  unfold D2
  intro a b n ta tb tn news hO0
  obtain ⟨ha, hn, hn20, hnd, hb1, hb2, hab⟩ := hO0
  by_cases hs : (Builtin.Int.intBits a : Int) - n ≤ 4000
  · exact d2_base w p loose mean mg mb ta tb tn news hn hb1 hb2 hs (Nat.succ_le_succ (Nat.zero_le _)) (Nat.le_add_left 8 _)
  · rcases Int.emod_two_eq n with h | h
    · exact d2_even w p loose mean mg mb H3 ta tb tn news ha hn hn20 hnd hb1 hb2 hab hs (k := (n / 2).toNat) (ev_k hn h).1 (by rw [bitAnd_m1]; exact h) (ev_k hn h).2
    · exact d2_odd w p loose mean mg mb H3 ta tb tn news ha hn hn20 hnd hb1 hb2 hab hs (k := ((n + 1) / 2).toNat) (od_k hn h).1 (by rw [bitAnd_m1]; exact h) (od_k hn h).2
theorem d2_zero (w : World) (p : Program) (loose : List Str) (mean : ExcName → Option Value) (mg mb : Str → Option Value) : D2 w p loose mean mg mb 0 := by
  unfold D2
  intro a b n ta tb tn news hO0
  obtain ⟨ha, hn, hn20, hnd, hb1, hb2, hab⟩ := hO0
  refine d2_base w p loose mean mg mb ta tb tn news hn hb1 hb2 ?_ (Nat.le_refl _) (Nat.le_refl _)
  have h2 : a < 2 ^ (n.toNat + n.toNat) := by
    rw [pow_add']
    exact Int.lt_of_lt_of_le hab (Int.mul_le_mul_of_nonneg_right (Int.le_of_lt hb2) (Int.le_of_lt (pow_pos' n.toNat)))
  have := lt_pow_bits ha h2
  omega
-- C3
theorem fresh_C3 : True := by
  w_top off
  exact trivial
theorem n3_one {n : Int} (h : n ≤ 2 ^ 20) : ((1 : Nat) : Int) + n ≤ 2 ^ 27 := by omega
theorem n3_room {x : Nat} {n : Int} (hn : 0 < n) (h20 : n ≤ 2 ^ 20) (h : (x : Int) ≤ ((n.toNat + 1 : Nat) : Int)) : (x : Int) + n ≤ 2 ^ 27 := by omega
theorem n3_up {x : Nat} {n : Int} (h : (x : Int) ≤ ((n.toNat : Nat) : Int)) : (x : Int) ≤ ((n.toNat + 1 : Nat) : Int) := by omega
theorem n3_turn {q b r x : Int} (h : q * b + r = x) (hr : r < 0) : (q - 1) * b + (r + b) = x ∧ r + b < b := by rw [Int.sub_mul]; omega
theorem n3_less {b r : Int} (hb : 0 < b) (hr : r < 0) : (-(r + b)).toNat < (-r).toNat := by omega
theorem n3_nn {r : Int} (h : ¬ r < 0) : 0 ≤ r := by omega
theorem n3_guess {z x y b : Int} (h : z = x - y ∧ x - y < b) : y + z = x ∧ z < b := by omega
theorem n3_small {n : Int} (h20 : n ≤ 2 ^ 20) : n.toNat ≤ 2 ^ 20 := by omega
section
variable (w : World) (p : Program) (loose : List Str) (mean : ExcName → Option Value) (mg mb : Str → Option Value)
end
namespace Cd3eqI
noncomputable def Pq (w : World) (p : Program) (loose : List Str) (mean : ExcName → Option Value) (mg : Str → Option Value) (mb : Str → Option Value) (d : Nat) (a12 : Int) (a3 : Int) (b : Int) (b1 : Int) (b2 : Int) (n : Int) (t1 : Tok) (t2 : Tok) (t3 : Tok) (t4 : Tok) (t5 : Tok) (t6 : Tok) (news : Led) (dp : Nat) (un : Nat) (gd : Option (List Code)) (cn : Str) (cs : Scope) (a' : Addr) (ccd : Value) (cl : List (Str × Addr)) (outer : List Env) (A₀ : Around) (base : Heap) (h₀ : Heap) (L : Addr) (m : Str → Option Value) (s : Shared) (Q : Value → Shared → Prop) (E : Value → Shared → Prop) : Prop := ∀ (H2 : D2 w p loose mean mg mb d) (ha : 0 ≤ a12) (hc : 0 ≤ a3) (hc' : a3 < 2 ^ n.toNat) (hn : 0 < n) (hn20 : n ≤ 2 ^ 20) (hb1 : (2 : Int) ^ (n.toNat - 1) ≤ b1) (hb1' : b1 < 2 ^ n.toNat) (hb2 : 0 ≤ b2) (hb2' : b2 < 2 ^ n.toNat) (hb : b = b1 * 2 ^ n.toNat + b2) (hab : a12 < b) (he : a12 / 2 ^ n.toNat = b1) (B : Below A₀ base outer h₀) (F : Fr h₀ L s.heap m) (X : (hd.heap_39 w.params).In h₀) (N : News h₀ L s.heap news) (T : Top p loose mean mg mb h₀) (hk : cs.kind = .function) (hd : dp + (2 * d + 2) < recursionLimit) (hu : un + (16 * d + 16) < cLine) (hret : ∀ r news' h' tk', Fr h₀ L h' m → News h₀ L h' news' → (Pair2 news ((a12 * 2 ^ n.toNat + a3) / b) ((a12 * 2 ^ n.toNat + a3) % b)) r news' → Q r { s with heap := h', toks := tk' }),
    wpAny (model PySem.Challenge.pw_sr0065_01 w) (ktrTop dp un gd cn cs L a' ccd cl outer) (call (.ref 35) [.int a12 t1, .int a3 t2, .int b t3, .int b1 t4, .int b2 t5, .int n t6]) Q E s
noncomputable abbrev Tq : Type := ((((((World × Program) × (List Str)) × ((ExcName → Option Value) × (Str → Option Value))) × ((((Str → Option Value) × Nat) × Int) × (Int × Int))) × ((((Int × Int) × Int) × (Tok × Tok)) × ((Tok × Tok) × (Tok × Tok)))) × (((((Led × Nat) × Nat) × ((Option (List Code)) × Str)) × ((Scope × Addr) × (Value × (List (Str × Addr))))) × (((((List Env) × Around) × Heap) × (Heap × Addr)) × (((Str → Option Value) × Shared) × ((Value → Shared → Prop) × (Value → Shared → Prop))))))
theorem exq : ∃ t : Tq, Pq t.1.1.1.1.1.1 t.1.1.1.1.1.2 t.1.1.1.1.2 t.1.1.1.2.1 t.1.1.1.2.2 t.1.1.2.1.1.1 t.1.1.2.1.1.2 t.1.1.2.1.2 t.1.1.2.2.1 t.1.1.2.2.2 t.1.2.1.1.1.1 t.1.2.1.1.1.2 t.1.2.1.1.2 t.1.2.1.2.1 t.1.2.1.2.2 t.1.2.2.1.1 t.1.2.2.1.2 t.1.2.2.2.1 t.1.2.2.2.2 t.2.1.1.1.1.1 t.2.1.1.1.1.2 t.2.1.1.1.2 t.2.1.1.2.1 t.2.1.1.2.2 t.2.1.2.1.1 t.2.1.2.1.2 t.2.1.2.2.1 t.2.1.2.2.2 t.2.2.1.1.1.1 t.2.2.1.1.1.2 t.2.2.1.1.2 t.2.2.1.2.1 t.2.2.1.2.2 t.2.2.2.1.1 t.2.2.2.1.2 t.2.2.2.2.1 t.2.2.2.2.2 → ∀ t : Tq, Pq t.1.1.1.1.1.1 t.1.1.1.1.1.2 t.1.1.1.1.2 t.1.1.1.2.1 t.1.1.1.2.2 t.1.1.2.1.1.1 t.1.1.2.1.1.2 t.1.1.2.1.2 t.1.1.2.2.1 t.1.1.2.2.2 t.1.2.1.1.1.1 t.1.2.1.1.1.2 t.1.2.1.1.2 t.1.2.1.2.1 t.1.2.1.2.2 t.1.2.2.1.1 t.1.2.2.1.2 t.1.2.2.2.1 t.1.2.2.2.2 t.2.1.1.1.1.1 t.2.1.1.1.1.2 t.2.1.1.1.2 t.2.1.1.2.1 t.2.1.1.2.2 t.2.1.2.1.1 t.2.1.2.1.2 t.2.1.2.2.1 t.2.1.2.2.2 t.2.2.1.1.1.1 t.2.2.1.1.1.2 t.2.2.1.1.2 t.2.2.1.2.1 t.2.2.1.2.2 t.2.2.2.1.1 t.2.2.2.1.2 t.2.2.2.2.1 t.2.2.2.2.2 := dk (α := Tq) (((((((aWorld 0, default), default), ((fun _ => default), (fun _ => default))), ((((fun _ => default), default), default), (default, default))), ((((default, default), default), (default, default)), ((default, default), (default, default)))), (((((default, default), default), (default, default)), ((default, default), (default, default))), ((((default, ({} : Around)), default), (default, default)), (((fun _ => default), ({} : Shared)), ((fun _ _ => True), (fun _ _ => True))))))) _
noncomputable def cq : Tq := Classical.choose exq
@[irreducible] noncomputable def w : World := cq.1.1.1.1.1.1
@[irreducible] noncomputable def p : Program := cq.1.1.1.1.1.2
@[irreducible] noncomputable def loose : List Str := cq.1.1.1.1.2
@[irreducible] noncomputable def mean : ExcName → Option Value := cq.1.1.1.2.1
@[irreducible] noncomputable def mg : Str → Option Value := cq.1.1.1.2.2
@[irreducible] noncomputable def mb : Str → Option Value := cq.1.1.2.1.1.1
@[irreducible] noncomputable def d : Nat := cq.1.1.2.1.1.2
@[irreducible] noncomputable def a12 : Int := cq.1.1.2.1.2
@[irreducible] noncomputable def a3 : Int := cq.1.1.2.2.1
@[irreducible] noncomputable def b : Int := cq.1.1.2.2.2
@[irreducible] noncomputable def b1 : Int := cq.1.2.1.1.1.1
@[irreducible] noncomputable def b2 : Int := cq.1.2.1.1.1.2
@[irreducible] noncomputable def n : Int := cq.1.2.1.1.2
@[irreducible] noncomputable def t1 : Tok := cq.1.2.1.2.1
@[irreducible] noncomputable def t2 : Tok := cq.1.2.1.2.2
@[irreducible] noncomputable def t3 : Tok := cq.1.2.2.1.1
@[irreducible] noncomputable def t4 : Tok := cq.1.2.2.1.2
@[irreducible] noncomputable def t5 : Tok := cq.1.2.2.2.1
@[irreducible] noncomputable def t6 : Tok := cq.1.2.2.2.2
@[irreducible] noncomputable def news : Led := cq.2.1.1.1.1.1
@[irreducible] noncomputable def dp : Nat := cq.2.1.1.1.1.2
@[irreducible] noncomputable def un : Nat := cq.2.1.1.1.2
@[irreducible] noncomputable def gd : Option (List Code) := cq.2.1.1.2.1
@[irreducible] noncomputable def cn : Str := cq.2.1.1.2.2
@[irreducible] noncomputable def cs : Scope := cq.2.1.2.1.1
@[irreducible] noncomputable def a' : Addr := cq.2.1.2.1.2
@[irreducible] noncomputable def ccd : Value := cq.2.1.2.2.1
@[irreducible] noncomputable def cl : List (Str × Addr) := cq.2.1.2.2.2
@[irreducible] noncomputable def outer : List Env := cq.2.2.1.1.1.1
@[irreducible] noncomputable def A₀ : Around := cq.2.2.1.1.1.2
@[irreducible] noncomputable def base : Heap := cq.2.2.1.1.2
@[irreducible] noncomputable def h₀ : Heap := cq.2.2.1.2.1
@[irreducible] noncomputable def L : Addr := cq.2.2.1.2.2
@[irreducible] noncomputable def m : Str → Option Value := cq.2.2.2.1.1
@[irreducible] noncomputable def s : Shared := cq.2.2.2.1.2
@[irreducible] noncomputable def Q : Value → Shared → Prop := cq.2.2.2.2.1
@[irreducible] noncomputable def E : Value → Shared → Prop := cq.2.2.2.2.2
noncomputable def cutq : {G : Prop // (∀ (H2 : D2 w p loose mean mg mb d) (ha : 0 ≤ a12) (hc : 0 ≤ a3) (hc' : a3 < 2 ^ n.toNat) (hn : 0 < n) (hn20 : n ≤ 2 ^ 20) (hb1 : (2 : Int) ^ (n.toNat - 1) ≤ b1) (hb1' : b1 < 2 ^ n.toNat) (hb2 : 0 ≤ b2) (hb2' : b2 < 2 ^ n.toNat) (hb : b = b1 * 2 ^ n.toNat + b2) (hab : a12 < b) (he : a12 / 2 ^ n.toNat = b1) (B : Below A₀ base outer h₀) (F : Fr h₀ L s.heap m) (X : (hd.heap_39 w.params).In h₀) (N : News h₀ L s.heap news) (T : Top p loose mean mg mb h₀) (hk : cs.kind = .function) (hd : dp + (2 * d + 2) < recursionLimit) (hu : un + (16 * d + 16) < cLine) (hret : ∀ r news' h' tk', Fr h₀ L h' m → News h₀ L h' news' → (Pair2 news ((a12 * 2 ^ n.toNat + a3) / b) ((a12 * 2 ^ n.toNat + a3) % b)) r news' → Q r { s with heap := h', toks := tk' }), G) → Pq w p loose mean mg mb d a12 a3 b b1 b2 n t1 t2 t3 t4 t5 t6 news dp un gd cn cs a' ccd cl outer A₀ base h₀ L m s Q E} := ⟨_, fun h9z => by
  unfold Pq
  intro H2 ha hc hc' hn hn20 hb1 hb1' hb2 hb2' hb hab he B F X N T hk hd hu hret
  have h9y := fun (_ : Unit) => h9z H2 ha hc hc' hn hn20 hb1 hb1' hb2 hb2' hb hab he B F X N T hk hd hu hret
  refine wpAny_call ?_
  (k_dflt ktr_enter)
  rename_i gz Lz hz FGz Fz Nz Bz Xz Tz
  clear_value (hqz : qk = _) (hez : ek = _)
  revert hez
  revert hqz
  revert Tz
  revert Xz
  revert Bz
  revert Nz
  revert Fz
  revert FGz
  revert ek
  revert qk
  revert hz
  revert Lz
  revert gz
  exact h9y ()⟩
noncomputable def pcq : {Pc : Heap → Addr → Heap → (Flow → Shared → Prop) → (Value → Shared → Prop) → Prop // (∀ a b c d e, Pc a b c d e) → cutq.1} := ⟨_, fun h => h⟩
theorem exc : ∃ t : (((Heap × Addr) × Heap) × ((Flow → Shared → Prop) × (Value → Shared → Prop))), pcq.1 t.1.1.1 t.1.1.2 t.1.2 t.2.1 t.2.2 → ∀ t : (((Heap × Addr) × Heap) × ((Flow → Shared → Prop) × (Value → Shared → Prop))), pcq.1 t.1.1.1 t.1.1.2 t.1.2 t.2.1 t.2.2 := dk (α := (((Heap × Addr) × Heap) × ((Flow → Shared → Prop) × (Value → Shared → Prop)))) (((default, default), default), ((fun _ _ => True), (fun _ _ => True))) _
noncomputable def ccq : (((Heap × Addr) × Heap) × ((Flow → Shared → Prop) × (Value → Shared → Prop))) := Classical.choose exc
@[irreducible] noncomputable def gz : Heap := ccq.1.1.1
@[irreducible] noncomputable def Lz : Addr := ccq.1.1.2
@[irreducible] noncomputable def hz : Heap := ccq.1.2
@[irreducible] noncomputable def qz : (Flow → Shared → Prop) := ccq.2.1
@[irreducible] noncomputable def ez : (Value → Shared → Prop) := ccq.2.2
theorem core2 (H2 : D2 w p loose mean mg mb d) (ha : 0 ≤ a12) (hc : 0 ≤ a3) (hc' : a3 < 2 ^ n.toNat) (hn : 0 < n) (hn20 : n ≤ 2 ^ 20) (hb1 : (2 : Int) ^ (n.toNat - 1) ≤ b1) (hb1' : b1 < 2 ^ n.toNat) (hb2 : 0 ≤ b2) (hb2' : b2 < 2 ^ n.toNat) (hb : b = b1 * 2 ^ n.toNat + b2) (hab : a12 < b) (he : a12 / 2 ^ n.toNat = b1) (B : Below A₀ base outer h₀) (F : Fr h₀ L s.heap m) (X : (hd.heap_39 w.params).In h₀) (N : News h₀ L s.heap news) (T : Top p loose mean mg mb h₀) (hk : cs.kind = .function) (hd : dp + (2 * d + 2) < recursionLimit) (hu : un + (16 * d + 16) < cLine) (hret : ∀ r news' h' tk', Fr h₀ L h' m → News h₀ L h' news' → (Pair2 news ((a12 * 2 ^ n.toNat + a3) / b) ((a12 * 2 ^ n.toNat + a3) % b)) r news' → Q r { s with heap := h', toks := tk' }) : pcq.1 gz Lz hz qz ez := by
  have hpn := pow_pos' (n.toNat - 1)
  have hpn' := pow_pos' n.toNat
  have hb10 : 0 < b1 := pos_of hpn hb1
  have hbp : 0 < b := hb ▸ Int.add_pos_of_pos_of_nonneg (Int.mul_pos hb10 hpn') hb2
  have hh := hi_eq hpn' he
  have hq := div_lt_pow ha hc hc' hab
  have hg := guess_rest (a12 := a12) (a3 := a3) (q := 2 ^ n.toNat - 1) hb (by omega) hbp
  have hr0 : a12 - b1 * 2 ^ n.toNat + b1 = a12 - (2 ^ n.toNat - 1) * b1 := by rw [Int.sub_mul, Int.one_mul, Int.mul_comm]; omega
  have hr1 : 0 ≤ a12 - (2 ^ n.toNat - 1) * b1 := by omega
  have hr2 : a12 - (2 ^ n.toNat - 1) * b1 < 2 ^ (n.toNat + 1) := by rw [Int.pow_succ]; omega
  have hor := bitOr_hilo hr1 hc hc'
  have hbits := lt_pow_bits hr1 hr2
  have hbits1 := lt_pow_bits (by omega) hb1'
  have hm := mulOk (show 0 ≤ (2 : Int) ^ n.toNat - 1 by omega) (show (2 : Int) ^ n.toNat - 1 < 2 ^ n.toNat by omega) hb2 hb2' (n3_small hn20) (n3_small hn20)
  have hgg := n3_guess hg
  have hi1 : Builtin.Int.intBits 1 = 1 := by decide
  intro FGz Fz Nz Bz Xz Tz hqz hez
  rw [hez]
  walk_at "STEPS"
  all_goals (try (rw [hqz]; (try dsimp only); walk_at "STEPS"))
  all_goals (first | (with_reducible show Pre _) | ((rename Fr _ _ _ _ => lF'); (rename News _ _ _ _ => lN'); (with_unfolding_all refine' ksw_while (σ := Int × Int × Tok × Tok) (fun _ => _) (fun c => [(Str.ofString "q", .int c.1 c.2.2.1), (Str.ofString "r", .int c.2.1 c.2.2.2)]) (fun _ => True) [] (fun c => Pre (c.1 * b + c.2.1 = a12 * 2 ^ n.toNat + a3 ∧ c.2.1 < b)) (fun c => (-c.2.1).toNat) ⟨_, _, _, _⟩ lF' lN' ?_ ?_ ?_ ?_); rotate_left 4; (exact True.intro); (with_unfolding_all kst_all); (rotate_left; clear lF' lN'; rintro ⟨q, r, tq, tr⟩ u' h' tk' - hI F' N'; dsimp only at hI F' N'; unfold Pre at hI; obtain ⟨hI1, hI2⟩ := hI; (try k_fold))))
  walk_at "STEPS"
  all_goals (first | (with_reducible show Pre _) | (refine ksw_end ⟨q - 1, r + b, _, _⟩ (by assumption) (by assumption) (by kst_in) True.intro (by kst_all) (by ((intro zq9 h2q9 h3q9; (simp only [List.forall_mem_cons, List.not_mem_nil, false_implies, implies_true, and_true, ne_eq] at h2q9); simp [h2q9, kstB]))) ?_ ?_) | refine ret_pair hret (by k_asm) (by k_asm) (by k_mem) (by walk_at "SUB") (by walk_at "LT") ?_)
  all_goals (try dsimp only)
  all_goals (try simp only [Int.one_mul, hr0, hor, hi1])
  all_goals (try unfold Pre)
  all_goals (first | (with_reducible exact Int.le_of_lt hn) | (with_reducible exact n3_one hn20) | (with_reducible exact n3_room hn hn20 hbits) | (with_reducible exact n3_room hn hn20 (n3_up hbits)) | (with_reducible exact hm) | (with_reducible exact n3_turn hI1 (by assumption)) | (with_reducible exact n3_less hbp (by assumption)) | (with_reducible exact hgg) | (with_reducible exact n3_room hn hn20 (n3_up hbits1)) | omega | exact hm | (exact div_of_rest hI1.symm (n3_nn (by assumption)) hI2))
theorem coreq : Pq w p loose mean mg mb d a12 a3 b b1 b2 n t1 t2 t3 t4 t5 t6 news dp un gd cn cs a' ccd cl outer A₀ base h₀ L m s Q E := by
  with_unfolding_all exact cutq.2 fun H2 ha hc hc' hn hn20 hb1 hb1' hb2 hb2' hb hab he B F X N T hk hd hu hret => pcq.2 fun a b c d e => Classical.choose_spec exc (core2 H2 ha hc hc' hn hn20 hb1 hb1' hb2 hb2' hb hab he B F X N T hk hd hu hret) (((a, b), c), (d, e))
theorem allq (w : World) (p : Program) (loose : List Str) (mean : ExcName → Option Value) (mg : Str → Option Value) (mb : Str → Option Value) (d : Nat) (a12 : Int) (a3 : Int) (b : Int) (b1 : Int) (b2 : Int) (n : Int) (t1 : Tok) (t2 : Tok) (t3 : Tok) (t4 : Tok) (t5 : Tok) (t6 : Tok) (news : Led) (dp : Nat) (un : Nat) (gd : Option (List Code)) (cn : Str) (cs : Scope) (a' : Addr) (ccd : Value) (cl : List (Str × Addr)) (outer : List Env) (A₀ : Around) (base : Heap) (h₀ : Heap) (L : Addr) (m : Str → Option Value) (s : Shared) (Q : Value → Shared → Prop) (E : Value → Shared → Prop) : Pq w p loose mean mg mb d a12 a3 b b1 b2 n t1 t2 t3 t4 t5 t6 news dp un gd cn cs a' ccd cl outer A₀ base h₀ L m s Q E := by
  with_unfolding_all exact Classical.choose_spec exq coreq ((((((w, p), loose), (mean, mg)), (((mb, d), a12), (a3, b))), ((((b1, b2), n), (t1, t2)), ((t3, t4), (t5, t6)))), (((((news, dp), un), (gd, cn)), ((cs, a'), (ccd, cl))), ((((outer, A₀), base), (h₀, L)), ((m, s), (Q, E)))))
end Cd3eqI
section
variable (w : World) (p : Program) (loose : List Str) (mean : ExcName → Option Value) (mg mb : Str → Option Value)
theorem d3_eqI {d : Nat} (H2 : D2 w p loose mean mg mb d) {a12 a3 b b1 b2 n : Int} (t1 t2 t3 t4 t5 t6 : Tok) (news : Led) (ha : 0 ≤ a12) (hc : 0 ≤ a3) (hc' : a3 < 2 ^ n.toNat) (hn : 0 < n) (hn20 : n ≤ 2 ^ 20)
    (hb1 : (2 : Int) ^ (n.toNat - 1) ≤ b1) (hb1' : b1 < 2 ^ n.toNat) (hb2 : 0 ≤ b2) (hb2' : b2 < 2 ^ n.toNat) (hb : b = b1 * 2 ^ n.toNat + b2) (hab : a12 < b) (he : a12 / 2 ^ n.toNat = b1) {dp : Nat} {un : Nat} {gd : Option (List Code)} {cn : Str} {cs : Scope} {a' : Addr} {ccd : Value} {cl : List (Str × Addr)} {outer : List Env} {A₀ : Around} {base : Heap} {h₀ : Heap} {L : Addr} {m : Str → Option Value} {s : Shared} {Q : Value → Shared → Prop} {E : Value → Shared → Prop}
    (B : Below A₀ base outer h₀) (F : Fr h₀ L s.heap m) (X : (hd.heap_39 w.params).In h₀) (N : News h₀ L s.heap news) (T : Top p loose mean mg mb h₀) (hk : cs.kind = .function) (hd : dp + (2 * d + 2) < recursionLimit) (hu : un + (16 * d + 16) < cLine) (hret : ∀ r news' h' tk', Fr h₀ L h' m → News h₀ L h' news' → (Pair2 news ((a12 * 2 ^ n.toNat + a3) / b) ((a12 * 2 ^ n.toNat + a3) % b)) r news' → Q r { s with heap := h', toks := tk' }) :
    wpAny (model PySem.Challenge.pw_sr0065_01 w) (ktrTop dp un gd cn cs L a' ccd cl outer) (call (.ref 35) [.int a12 t1, .int a3 t2, .int b t3, .int b1 t4, .int b2 t5, .int n t6]) Q E s :=
  Cd3eqI.allq w p loose mean mg mb d a12 a3 b b1 b2 n t1 t2 t3 t4 t5 t6 news dp un gd cn cs a' ccd cl outer A₀ base h₀ L m s Q E H2 ha hc hc' hn hn20 hb1 hb1' hb2 hb2' hb hab he B F X N T hk hd hu hret
theorem d3_eq {d : Nat} (H2 : D2 w p loose mean mg mb d) {a12 a3 b b1 b2 n : Int} (t1 t2 t3 t4 t5 t6 : Tok) (news : Led) (ha : 0 ≤ a12) (hc : 0 ≤ a3) (hc' : a3 < 2 ^ n.toNat) (hn : 0 < n) (hn20 : n ≤ 2 ^ 20)
    (hb1 : (2 : Int) ^ (n.toNat - 1) ≤ b1) (hb1' : b1 < 2 ^ n.toNat) (hb2 : 0 ≤ b2) (hb2' : b2 < 2 ^ n.toNat) (hb : b = b1 * 2 ^ n.toNat + b2) (hab : a12 < b) (he : a12 / 2 ^ n.toNat = b1) :
    CallOk w p loose mean mg mb 35 [.int a12 t1, .int a3 t2, .int b t3, .int b1 t4, .int b2 t5, .int n t6] (2 * d + 2) (16 * d + 16) news (Pair2 news ((a12 * 2 ^ n.toNat + a3) / b) ((a12 * 2 ^ n.toNat + a3) % b)) := by
  unfold CallOk
  intro dp un gd cn cs a' ccd cl outer A₀ base h₀ L m s Q E B F X N T hk hd hu hret
  exact d3_eqI w p loose mean mg mb (d := d) H2 (a12 := a12) (a3 := a3) (b := b) (b1 := b1) (b2 := b2) (n := n) t1 t2 t3 t4 t5 t6 news ha hc hc' hn hn20 hb1 hb1' hb2 hb2' hb hab he B F X N T hk hd hu hret
end
namespace Cd3neI
noncomputable def Pq (w : World) (p : Program) (loose : List Str) (mean : ExcName → Option Value) (mg : Str → Option Value) (mb : Str → Option Value) (d : Nat) (a12 : Int) (a3 : Int) (b : Int) (b1 : Int) (b2 : Int) (n : Int) (t1 : Tok) (t2 : Tok) (t3 : Tok) (t4 : Tok) (t5 : Tok) (t6 : Tok) (news : Led) (dp : Nat) (un : Nat) (gd : Option (List Code)) (cn : Str) (cs : Scope) (a' : Addr) (ccd : Value) (cl : List (Str × Addr)) (outer : List Env) (A₀ : Around) (base : Heap) (h₀ : Heap) (L : Addr) (m : Str → Option Value) (s : Shared) (Q : Value → Shared → Prop) (E : Value → Shared → Prop) : Prop := ∀ (H2 : D2 w p loose mean mg mb d) (ha : 0 ≤ a12) (hc : 0 ≤ a3) (hc' : a3 < 2 ^ n.toNat) (hn : 0 < n) (hn20 : n ≤ 2 ^ 20) (hnd : n ≤ 4000 * 2 ^ d) (hb1 : (2 : Int) ^ (n.toNat - 1) ≤ b1) (hb1' : b1 < 2 ^ n.toNat) (hb2 : 0 ≤ b2) (hb2' : b2 < 2 ^ n.toNat) (hb : b = b1 * 2 ^ n.toNat + b2) (hab : a12 < b) (he : a12 / 2 ^ n.toNat ≠ b1) (B : Below A₀ base outer h₀) (F : Fr h₀ L s.heap m) (X : (hd.heap_39 w.params).In h₀) (N : News h₀ L s.heap news) (T : Top p loose mean mg mb h₀) (hk : cs.kind = .function) (hd : dp + (2 * d + 2) < recursionLimit) (hu : un + (16 * d + 16) < cLine) (hret : ∀ r news' h' tk', Fr h₀ L h' m → News h₀ L h' news' → (Pair2 news ((a12 * 2 ^ n.toNat + a3) / b) ((a12 * 2 ^ n.toNat + a3) % b)) r news' → Q r { s with heap := h', toks := tk' }),
    wpAny (model PySem.Challenge.pw_sr0065_01 w) (ktrTop dp un gd cn cs L a' ccd cl outer) (call (.ref 35) [.int a12 t1, .int a3 t2, .int b t3, .int b1 t4, .int b2 t5, .int n t6]) Q E s
noncomputable abbrev Tq : Type := ((((((World × Program) × (List Str)) × ((ExcName → Option Value) × (Str → Option Value))) × ((((Str → Option Value) × Nat) × Int) × (Int × Int))) × ((((Int × Int) × Int) × (Tok × Tok)) × ((Tok × Tok) × (Tok × Tok)))) × (((((Led × Nat) × Nat) × ((Option (List Code)) × Str)) × ((Scope × Addr) × (Value × (List (Str × Addr))))) × (((((List Env) × Around) × Heap) × (Heap × Addr)) × (((Str → Option Value) × Shared) × ((Value → Shared → Prop) × (Value → Shared → Prop))))))
theorem exq : ∃ t : Tq, Pq t.1.1.1.1.1.1 t.1.1.1.1.1.2 t.1.1.1.1.2 t.1.1.1.2.1 t.1.1.1.2.2 t.1.1.2.1.1.1 t.1.1.2.1.1.2 t.1.1.2.1.2 t.1.1.2.2.1 t.1.1.2.2.2 t.1.2.1.1.1.1 t.1.2.1.1.1.2 t.1.2.1.1.2 t.1.2.1.2.1 t.1.2.1.2.2 t.1.2.2.1.1 t.1.2.2.1.2 t.1.2.2.2.1 t.1.2.2.2.2 t.2.1.1.1.1.1 t.2.1.1.1.1.2 t.2.1.1.1.2 t.2.1.1.2.1 t.2.1.1.2.2 t.2.1.2.1.1 t.2.1.2.1.2 t.2.1.2.2.1 t.2.1.2.2.2 t.2.2.1.1.1.1 t.2.2.1.1.1.2 t.2.2.1.1.2 t.2.2.1.2.1 t.2.2.1.2.2 t.2.2.2.1.1 t.2.2.2.1.2 t.2.2.2.2.1 t.2.2.2.2.2 → ∀ t : Tq, Pq t.1.1.1.1.1.1 t.1.1.1.1.1.2 t.1.1.1.1.2 t.1.1.1.2.1 t.1.1.1.2.2 t.1.1.2.1.1.1 t.1.1.2.1.1.2 t.1.1.2.1.2 t.1.1.2.2.1 t.1.1.2.2.2 t.1.2.1.1.1.1 t.1.2.1.1.1.2 t.1.2.1.1.2 t.1.2.1.2.1 t.1.2.1.2.2 t.1.2.2.1.1 t.1.2.2.1.2 t.1.2.2.2.1 t.1.2.2.2.2 t.2.1.1.1.1.1 t.2.1.1.1.1.2 t.2.1.1.1.2 t.2.1.1.2.1 t.2.1.1.2.2 t.2.1.2.1.1 t.2.1.2.1.2 t.2.1.2.2.1 t.2.1.2.2.2 t.2.2.1.1.1.1 t.2.2.1.1.1.2 t.2.2.1.1.2 t.2.2.1.2.1 t.2.2.1.2.2 t.2.2.2.1.1 t.2.2.2.1.2 t.2.2.2.2.1 t.2.2.2.2.2 := dk (α := Tq) (((((((aWorld 0, default), default), ((fun _ => default), (fun _ => default))), ((((fun _ => default), default), default), (default, default))), ((((default, default), default), (default, default)), ((default, default), (default, default)))), (((((default, default), default), (default, default)), ((default, default), (default, default))), ((((default, ({} : Around)), default), (default, default)), (((fun _ => default), ({} : Shared)), ((fun _ _ => True), (fun _ _ => True))))))) _
noncomputable def cq : Tq := Classical.choose exq
@[irreducible] noncomputable def w : World := cq.1.1.1.1.1.1
@[irreducible] noncomputable def p : Program := cq.1.1.1.1.1.2
@[irreducible] noncomputable def loose : List Str := cq.1.1.1.1.2
@[irreducible] noncomputable def mean : ExcName → Option Value := cq.1.1.1.2.1
@[irreducible] noncomputable def mg : Str → Option Value := cq.1.1.1.2.2
@[irreducible] noncomputable def mb : Str → Option Value := cq.1.1.2.1.1.1
@[irreducible] noncomputable def d : Nat := cq.1.1.2.1.1.2
@[irreducible] noncomputable def a12 : Int := cq.1.1.2.1.2
@[irreducible] noncomputable def a3 : Int := cq.1.1.2.2.1
@[irreducible] noncomputable def b : Int := cq.1.1.2.2.2
@[irreducible] noncomputable def b1 : Int := cq.1.2.1.1.1.1
@[irreducible] noncomputable def b2 : Int := cq.1.2.1.1.1.2
@[irreducible] noncomputable def n : Int := cq.1.2.1.1.2
@[irreducible] noncomputable def t1 : Tok := cq.1.2.1.2.1
@[irreducible] noncomputable def t2 : Tok := cq.1.2.1.2.2
@[irreducible] noncomputable def t3 : Tok := cq.1.2.2.1.1
@[irreducible] noncomputable def t4 : Tok := cq.1.2.2.1.2
@[irreducible] noncomputable def t5 : Tok := cq.1.2.2.2.1
@[irreducible] noncomputable def t6 : Tok := cq.1.2.2.2.2
@[irreducible] noncomputable def news : Led := cq.2.1.1.1.1.1
@[irreducible] noncomputable def dp : Nat := cq.2.1.1.1.1.2
@[irreducible] noncomputable def un : Nat := cq.2.1.1.1.2
@[irreducible] noncomputable def gd : Option (List Code) := cq.2.1.1.2.1
@[irreducible] noncomputable def cn : Str := cq.2.1.1.2.2
@[irreducible] noncomputable def cs : Scope := cq.2.1.2.1.1
@[irreducible] noncomputable def a' : Addr := cq.2.1.2.1.2
@[irreducible] noncomputable def ccd : Value := cq.2.1.2.2.1
@[irreducible] noncomputable def cl : List (Str × Addr) := cq.2.1.2.2.2
@[irreducible] noncomputable def outer : List Env := cq.2.2.1.1.1.1
@[irreducible] noncomputable def A₀ : Around := cq.2.2.1.1.1.2
@[irreducible] noncomputable def base : Heap := cq.2.2.1.1.2
@[irreducible] noncomputable def h₀ : Heap := cq.2.2.1.2.1
@[irreducible] noncomputable def L : Addr := cq.2.2.1.2.2
@[irreducible] noncomputable def m : Str → Option Value := cq.2.2.2.1.1
@[irreducible] noncomputable def s : Shared := cq.2.2.2.1.2
@[irreducible] noncomputable def Q : Value → Shared → Prop := cq.2.2.2.2.1
@[irreducible] noncomputable def E : Value → Shared → Prop := cq.2.2.2.2.2
noncomputable def cutq : {G : Prop // (∀ (H2 : D2 w p loose mean mg mb d) (ha : 0 ≤ a12) (hc : 0 ≤ a3) (hc' : a3 < 2 ^ n.toNat) (hn : 0 < n) (hn20 : n ≤ 2 ^ 20) (hnd : n ≤ 4000 * 2 ^ d) (hb1 : (2 : Int) ^ (n.toNat - 1) ≤ b1) (hb1' : b1 < 2 ^ n.toNat) (hb2 : 0 ≤ b2) (hb2' : b2 < 2 ^ n.toNat) (hb : b = b1 * 2 ^ n.toNat + b2) (hab : a12 < b) (he : a12 / 2 ^ n.toNat ≠ b1) (B : Below A₀ base outer h₀) (F : Fr h₀ L s.heap m) (X : (hd.heap_39 w.params).In h₀) (N : News h₀ L s.heap news) (T : Top p loose mean mg mb h₀) (hk : cs.kind = .function) (hd : dp + (2 * d + 2) < recursionLimit) (hu : un + (16 * d + 16) < cLine) (hret : ∀ r news' h' tk', Fr h₀ L h' m → News h₀ L h' news' → (Pair2 news ((a12 * 2 ^ n.toNat + a3) / b) ((a12 * 2 ^ n.toNat + a3) % b)) r news' → Q r { s with heap := h', toks := tk' }), G) → Pq w p loose mean mg mb d a12 a3 b b1 b2 n t1 t2 t3 t4 t5 t6 news dp un gd cn cs a' ccd cl outer A₀ base h₀ L m s Q E} := ⟨_, fun h9z => by
  unfold Pq
  intro H2 ha hc hc' hn hn20 hnd hb1 hb1' hb2 hb2' hb hab he B F X N T hk hd hu hret
  have h9y := fun (_ : Unit) => h9z H2 ha hc hc' hn hn20 hnd hb1 hb1' hb2 hb2' hb hab he B F X N T hk hd hu hret
  refine wpAny_call ?_
  (k_dflt ktr_enter)
  rename_i gz Lz hz FGz Fz Nz Bz Xz Tz
  clear_value (hqz : qk = _) (hez : ek = _)
  revert hez
  revert hqz
  revert Tz
  revert Xz
  revert Bz
  revert Nz
  revert Fz
  revert FGz
  revert ek
  revert qk
  revert hz
  revert Lz
  revert gz
  exact h9y ()⟩
noncomputable def pcq : {Pc : Heap → Addr → Heap → (Flow → Shared → Prop) → (Value → Shared → Prop) → Prop // (∀ a b c d e, Pc a b c d e) → cutq.1} := ⟨_, fun h => h⟩
theorem exc : ∃ t : (((Heap × Addr) × Heap) × ((Flow → Shared → Prop) × (Value → Shared → Prop))), pcq.1 t.1.1.1 t.1.1.2 t.1.2 t.2.1 t.2.2 → ∀ t : (((Heap × Addr) × Heap) × ((Flow → Shared → Prop) × (Value → Shared → Prop))), pcq.1 t.1.1.1 t.1.1.2 t.1.2 t.2.1 t.2.2 := dk (α := (((Heap × Addr) × Heap) × ((Flow → Shared → Prop) × (Value → Shared → Prop)))) (((default, default), default), ((fun _ _ => True), (fun _ _ => True))) _
noncomputable def ccq : (((Heap × Addr) × Heap) × ((Flow → Shared → Prop) × (Value → Shared → Prop))) := Classical.choose exc
@[irreducible] noncomputable def gz : Heap := ccq.1.1.1
@[irreducible] noncomputable def Lz : Addr := ccq.1.1.2
@[irreducible] noncomputable def hz : Heap := ccq.1.2
@[irreducible] noncomputable def qz : (Flow → Shared → Prop) := ccq.2.1
@[irreducible] noncomputable def ez : (Value → Shared → Prop) := ccq.2.2
theorem core2 (H2 : D2 w p loose mean mg mb d) (ha : 0 ≤ a12) (hc : 0 ≤ a3) (hc' : a3 < 2 ^ n.toNat) (hn : 0 < n) (hn20 : n ≤ 2 ^ 20) (hnd : n ≤ 4000 * 2 ^ d) (hb1 : (2 : Int) ^ (n.toNat - 1) ≤ b1) (hb1' : b1 < 2 ^ n.toNat) (hb2 : 0 ≤ b2) (hb2' : b2 < 2 ^ n.toNat) (hb : b = b1 * 2 ^ n.toNat + b2) (hab : a12 < b) (he : a12 / 2 ^ n.toNat ≠ b1) (B : Below A₀ base outer h₀) (F : Fr h₀ L s.heap m) (X : (hd.heap_39 w.params).In h₀) (N : News h₀ L s.heap news) (T : Top p loose mean mg mb h₀) (hk : cs.kind = .function) (hd : dp + (2 * d + 2) < recursionLimit) (hu : un + (16 * d + 16) < cLine) (hret : ∀ r news' h' tk', Fr h₀ L h' m → News h₀ L h' news' → (Pair2 news ((a12 * 2 ^ n.toNat + a3) / b) ((a12 * 2 ^ n.toNat + a3) % b)) r news' → Q r { s with heap := h', toks := tk' }) : pcq.1 gz Lz hz qz ez := by
  have hpn := pow_pos' (n.toNat - 1)
  have hpn' := pow_pos' n.toNat
  have hb10 : 0 < b1 := pos_of hpn hb1
  have hbp : 0 < b := hb ▸ Int.add_pos_of_pos_of_nonneg (Int.mul_pos hb10 hpn') hb2
  have hh := hi_ne hpn' he (hb ▸ hab) hb2'
  have hq := guess_ge ha hc hc' hb10 hb2 hb
  have hg := guess_rest (a12 := a12) (a3 := a3) (q := a12 / b1) hb hq hbp
  have hmod := Int.ediv_mul_add_emod a12 b1
  have hr0 : a12 % b1 = a12 - a12 / b1 * b1 := by omega
  have hr1 : 0 ≤ a12 - a12 / b1 * b1 := by rw [← hr0]; exact Int.emod_nonneg _ (by omega)
  have hr2 : a12 - a12 / b1 * b1 < 2 ^ n.toNat := by rw [← hr0]; exact Int.lt_trans (Int.emod_lt_of_pos _ hb10) hb1'
  have hq0 : 0 ≤ a12 / b1 := Int.ediv_nonneg ha (by omega)
  have hq1 : a12 / b1 < 2 ^ n.toNat := Int.ediv_lt_of_lt_mul hb10 (by rw [Int.mul_comm]; exact hh)
  have hor := bitOr_hilo hr1 hc hc'
  have hbits := lt_pow_bits hr1 hr2
  have hm := mulOk hq0 hq1 hb2 hb2' (n3_small hn20) (n3_small hn20)
  have hgg := n3_guess hg
  have hpre : 0 ≤ a12 ∧ 0 < n ∧ n ≤ 2 ^ 20 ∧ n ≤ 4000 * 2 ^ d ∧ (2 : Int) ^ (n.toNat - 1) ≤ b1 ∧ b1 < 2 ^ n.toNat ∧ a12 < b1 * 2 ^ n.toNat := ⟨ha, hn, hn20, hnd, hb1, hb1', hh⟩
  intro FGz Fz Nz Bz Xz Tz hqz hez
  rw [hez]
  walk_at "STEPS"
  all_goals (try ((k_here; (with_reducible show wpAny _ _ (call (Value.ref 28) _) _ _ _); (with_reducible rename D2 _ _ _ _ _ _ _ => h3q11); k_dflt (refine' CallOk.use (h3q11 _ _ _ _ _ _ _ ?preq11) ?k1q11 ?k2q11 ?k3q11 ?k4q11 ?k5q11 ?k6q11 ?k7q11 ?k8q11 ?_); (((case k1q11 | k2q11 | k3q11 | k4q11 | k5q11 => k_asm); (case k6q11 => first | exact rfl | assumption); (case k7q11 => ktr_room); (case k8q11 => ktr_units))); rotate_left; (intro r9q11 n9q11 h9q11 tk9q11 F9q11 N9q11 hO9q11; obtain ⟨x9q11, tq9q11, tr9q11, e9q11, e99q11, lt9q11⟩ := hO9q11; subst e9q11 e99q11; (try dsimp only); (try k_fold)))))
  all_goals (try walk_at "STEPS")
  all_goals (try (rw [hqz]; (try dsimp only); walk_at "STEPS"))
  all_goals (first | (with_reducible show Pre _) | ((rename Fr _ _ _ _ => lF'); (rename News _ _ _ _ => lN'); (with_unfolding_all refine' ksw_while (σ := Int × Int × Tok × Tok) (fun _ => _) (fun c => [(Str.ofString "q", .int c.1 c.2.2.1), (Str.ofString "r", .int c.2.1 c.2.2.2)]) (fun _ => True) [] (fun c => Pre (c.1 * b + c.2.1 = a12 * 2 ^ n.toNat + a3 ∧ c.2.1 < b)) (fun c => (-c.2.1).toNat) ⟨_, _, _, _⟩ lF' lN' ?_ ?_ ?_ ?_); rotate_left 4; (exact True.intro); (with_unfolding_all kst_all); (rotate_left; clear lF' lN'; rintro ⟨q, r, tq, tr⟩ u' h' tk' - hI F' N'; dsimp only at hI F' N'; unfold Pre at hI; obtain ⟨hI1, hI2⟩ := hI; (try k_fold))))
  walk_at "STEPS"
  all_goals (first | (with_reducible show Pre _) | (refine ksw_end ⟨q - 1, r + b, _, _⟩ (by assumption) (by assumption) (by kst_in) True.intro (by kst_all) (by ((intro zq12 h2q12 h3q12; (simp only [List.forall_mem_cons, List.not_mem_nil, false_implies, implies_true, and_true, ne_eq] at h2q12); simp [h2q12, kstB]))) ?_ ?_) | refine ret_pair hret (by k_asm) (by k_asm) (by k_mem) (by walk_at "SUB") (by walk_at "LT") ?_)
  all_goals (try dsimp only)
  all_goals (try simp only [Int.one_mul, hr0, hor])
  all_goals (try unfold Pre)
  all_goals (first | (with_reducible exact Int.le_of_lt hn) | (with_reducible exact n3_one hn20) | (with_reducible exact n3_room hn hn20 hbits) | (with_reducible exact n3_room hn hn20 (n3_up hbits)) | (with_reducible exact hm) | (with_reducible exact n3_turn hI1 (by assumption)) | (with_reducible exact n3_less hbp (by assumption)) | (with_reducible exact hgg) | (with_reducible exact n3_room hn hn20 (n3_up hbits1)) | omega | exact hm | exact hpre | (exact div_of_rest hI1.symm (n3_nn (by assumption)) hI2))
theorem coreq : Pq w p loose mean mg mb d a12 a3 b b1 b2 n t1 t2 t3 t4 t5 t6 news dp un gd cn cs a' ccd cl outer A₀ base h₀ L m s Q E := by
  with_unfolding_all exact cutq.2 fun H2 ha hc hc' hn hn20 hnd hb1 hb1' hb2 hb2' hb hab he B F X N T hk hd hu hret => pcq.2 fun a b c d e => Classical.choose_spec exc (core2 H2 ha hc hc' hn hn20 hnd hb1 hb1' hb2 hb2' hb hab he B F X N T hk hd hu hret) (((a, b), c), (d, e))
theorem allq (w : World) (p : Program) (loose : List Str) (mean : ExcName → Option Value) (mg : Str → Option Value) (mb : Str → Option Value) (d : Nat) (a12 : Int) (a3 : Int) (b : Int) (b1 : Int) (b2 : Int) (n : Int) (t1 : Tok) (t2 : Tok) (t3 : Tok) (t4 : Tok) (t5 : Tok) (t6 : Tok) (news : Led) (dp : Nat) (un : Nat) (gd : Option (List Code)) (cn : Str) (cs : Scope) (a' : Addr) (ccd : Value) (cl : List (Str × Addr)) (outer : List Env) (A₀ : Around) (base : Heap) (h₀ : Heap) (L : Addr) (m : Str → Option Value) (s : Shared) (Q : Value → Shared → Prop) (E : Value → Shared → Prop) : Pq w p loose mean mg mb d a12 a3 b b1 b2 n t1 t2 t3 t4 t5 t6 news dp un gd cn cs a' ccd cl outer A₀ base h₀ L m s Q E := by
  with_unfolding_all exact Classical.choose_spec exq coreq ((((((w, p), loose), (mean, mg)), (((mb, d), a12), (a3, b))), ((((b1, b2), n), (t1, t2)), ((t3, t4), (t5, t6)))), (((((news, dp), un), (gd, cn)), ((cs, a'), (ccd, cl))), ((((outer, A₀), base), (h₀, L)), ((m, s), (Q, E)))))
end Cd3neI
section
variable (w : World) (p : Program) (loose : List Str) (mean : ExcName → Option Value) (mg mb : Str → Option Value)
theorem d3_neI {d : Nat} (H2 : D2 w p loose mean mg mb d) {a12 a3 b b1 b2 n : Int} (t1 t2 t3 t4 t5 t6 : Tok) (news : Led) (ha : 0 ≤ a12) (hc : 0 ≤ a3) (hc' : a3 < 2 ^ n.toNat) (hn : 0 < n) (hn20 : n ≤ 2 ^ 20) (hnd : n ≤ 4000 * 2 ^ d)
    (hb1 : (2 : Int) ^ (n.toNat - 1) ≤ b1) (hb1' : b1 < 2 ^ n.toNat) (hb2 : 0 ≤ b2) (hb2' : b2 < 2 ^ n.toNat) (hb : b = b1 * 2 ^ n.toNat + b2) (hab : a12 < b) (he : a12 / 2 ^ n.toNat ≠ b1) {dp : Nat} {un : Nat} {gd : Option (List Code)} {cn : Str} {cs : Scope} {a' : Addr} {ccd : Value} {cl : List (Str × Addr)} {outer : List Env} {A₀ : Around} {base : Heap} {h₀ : Heap} {L : Addr} {m : Str → Option Value} {s : Shared} {Q : Value → Shared → Prop} {E : Value → Shared → Prop}
    (B : Below A₀ base outer h₀) (F : Fr h₀ L s.heap m) (X : (hd.heap_39 w.params).In h₀) (N : News h₀ L s.heap news) (T : Top p loose mean mg mb h₀) (hk : cs.kind = .function) (hd : dp + (2 * d + 2) < recursionLimit) (hu : un + (16 * d + 16) < cLine) (hret : ∀ r news' h' tk', Fr h₀ L h' m → News h₀ L h' news' → (Pair2 news ((a12 * 2 ^ n.toNat + a3) / b) ((a12 * 2 ^ n.toNat + a3) % b)) r news' → Q r { s with heap := h', toks := tk' }) :
    wpAny (model PySem.Challenge.pw_sr0065_01 w) (ktrTop dp un gd cn cs L a' ccd cl outer) (call (.ref 35) [.int a12 t1, .int a3 t2, .int b t3, .int b1 t4, .int b2 t5, .int n t6]) Q E s :=
  Cd3neI.allq w p loose mean mg mb d a12 a3 b b1 b2 n t1 t2 t3 t4 t5 t6 news dp un gd cn cs a' ccd cl outer A₀ base h₀ L m s Q E H2 ha hc hc' hn hn20 hnd hb1 hb1' hb2 hb2' hb hab he B F X N T hk hd hu hret
theorem d3_ne {d : Nat} (H2 : D2 w p loose mean mg mb d) {a12 a3 b b1 b2 n : Int} (t1 t2 t3 t4 t5 t6 : Tok) (news : Led) (ha : 0 ≤ a12) (hc : 0 ≤ a3) (hc' : a3 < 2 ^ n.toNat) (hn : 0 < n) (hn20 : n ≤ 2 ^ 20) (hnd : n ≤ 4000 * 2 ^ d)
    (hb1 : (2 : Int) ^ (n.toNat - 1) ≤ b1) (hb1' : b1 < 2 ^ n.toNat) (hb2 : 0 ≤ b2) (hb2' : b2 < 2 ^ n.toNat) (hb : b = b1 * 2 ^ n.toNat + b2) (hab : a12 < b) (he : a12 / 2 ^ n.toNat ≠ b1) :
    CallOk w p loose mean mg mb 35 [.int a12 t1, .int a3 t2, .int b t3, .int b1 t4, .int b2 t5, .int n t6] (2 * d + 2) (16 * d + 16) news (Pair2 news ((a12 * 2 ^ n.toNat + a3) / b) ((a12 * 2 ^ n.toNat + a3) % b)) := by
  unfold CallOk
  intro dp un gd cn cs a' ccd cl outer A₀ base h₀ L m s Q E B F X N T hk hd hu hret
  exact d3_neI w p loose mean mg mb (d := d) H2 (a12 := a12) (a3 := a3) (b := b) (b1 := b1) (b2 := b2) (n := n) t1 t2 t3 t4 t5 t6 news ha hc hc' hn hn20 hnd hb1 hb1' hb2 hb2' hb hab he B F X N T hk hd hu hret
theorem d3_step {d : Nat} (H2 : D2 w p loose mean mg mb d) : D3 w p loose mean mg mb d := by
  unfold D3
  intro a12 a3 b b1 b2 n t1 t2 t3 t4 t5 t6 news hO0
  obtain ⟨ha, hc, hc', hn, hn20, hnd, hb1, hb1', hb2, hb2', hb, hab⟩ := hO0
  by_cases he : a12 / 2 ^ n.toNat = b1
  · exact d3_eq w p loose mean mg mb H2 t1 t2 t3 t4 t5 t6 news ha hc hc' hn hn20 hb1 hb1' hb2 hb2' hb hab he
  · exact d3_ne w p loose mean mg mb H2 t1 t2 t3 t4 t5 t6 news ha hc hc' hn hn20 hnd hb1 hb1' hb2 hb2' hb hab he
theorem d2_all : ∀ d, D2 w p loose mean mg mb d
  | 0 => d2_zero w p loose mean mg mb
  | d + 1 => d2_step w p loose mean mg mb d (d3_step w p loose mean mg mb (d2_all d))
end
-- M3
section
/-- the digits of x to the base 2 ^ n, c of them, the lowest first -/
noncomputable def dig (n : Nat) : Nat → Int → List Int
  | 0, _ => []
  | c + 1, x => x % 2 ^ n :: dig n c (x / 2 ^ n)
theorem dig_len (n : Nat) : ∀ (c : Nat) (x : Int), (dig n c x).length = c
  | 0, _ => rfl
  | c + 1, x => by rw [dig, List.length_cons, dig_len n c]
theorem dig_add (n : Nat) : ∀ (a b : Nat) (x : Int), 0 ≤ x → dig n (a + b) x = dig n a x ++ dig n b (x / 2 ^ (n * a))
  | 0, b, x, _ => by simp [dig]
  | a + 1, b, x, hx => by
    have hp := pow_pos' n
    rw [show a + 1 + b = (a + b) + 1 by omega, dig, dig, dig_add n a b _ (Int.ediv_nonneg hx (by omega)), List.cons_append, Int.ediv_ediv_of_nonneg (Int.le_of_lt hp), ← Int.pow_add]
    rw [show n + n * a = n * (a + 1) by rw [Nat.mul_add]; omega]
theorem dig_mod (n : Nat) : ∀ (a : Nat) (x : Int), 0 ≤ x → dig n a (x % 2 ^ (n * a)) = dig n a x
  | 0, _, _ => rfl
  | a + 1, x, hx => by
    have hp := pow_pos' n
    have hp2 := pow_pos' (n * a)
    have e : (2 : Int) ^ (n * (a + 1)) = 2 ^ n * 2 ^ (n * a) := by rw [← Int.pow_add, Nat.mul_add]; congr 1; omega
    rw [dig, dig, e, Int.emod_emod_of_dvd x (Int.dvd_mul_right _ _)]
    congr 1
    have h1 : x % (2 ^ n * 2 ^ (n * a)) / 2 ^ n = x / 2 ^ n % 2 ^ (n * a) := by
      rw [Int.emod_def x (2 ^ n * 2 ^ (n * a)), ← Int.ediv_ediv_of_nonneg (Int.le_of_lt hp)]
      have := Int.emod_def (x / 2 ^ n) (2 ^ (n * a))
      rw [this, Int.mul_assoc, Int.sub_eq_add_neg, ← Int.mul_neg, Int.add_mul_ediv_left _ _ (by omega)]
      omega
    rw [h1, dig_mod n a _ (Int.ediv_nonneg hx (by omega))]
theorem dig_one {n : Nat} {x : Int} (h0 : 0 ≤ x) (h : x < 2 ^ n) : dig n 1 x = [x] := by
  rw [dig, dig, Int.emod_eq_of_lt h0 h]
/-- the list with the places from lo on filled by the digits of x -/
noncomputable def fill (ns : List Int) (n lo c : Nat) (x : Int) : List Int := ns.take lo ++ dig n c x ++ ns.drop (lo + c)
theorem fill_len {ns : List Int} {n lo c : Nat} {x : Int} (h : lo + c ≤ ns.length) : (fill ns n lo c x).length = ns.length := by
  unfold fill
  rw [List.length_append, List.length_append, dig_len, List.length_take, List.length_drop]; omega
theorem fill_one {ns : List Int} {n lo : Nat} {x : Int} (h0 : 0 ≤ x) (h : x < 2 ^ n) (hl : lo < ns.length) : ns.set lo x = fill ns n lo 1 x := by
  unfold fill
  rw [dig_one h0 h, List.set_eq_take_append_cons_drop, if_pos hl, List.append_assoc]; rfl
theorem fill_two {ns : List Int} {n lo a b : Nat} {x : Int} (hx : 0 ≤ x) (h : lo + a + b ≤ ns.length) :
    fill (fill ns n lo a (x % 2 ^ (n * a))) n (lo + a) b (x / 2 ^ (n * a)) = fill ns n lo (a + b) x := by
  unfold fill
  rw [dig_mod n a x hx, dig_add n a b x hx]
  have e1 : (ns.take lo ++ dig n a x ++ ns.drop (lo + a)).take (lo + a) = ns.take lo ++ dig n a x := by
    have : (ns.take lo ++ dig n a x).length = lo + a := by rw [List.length_append, dig_len, List.length_take]; omega
    rw [← this, List.take_left']
    exact this.symm ▸ rfl
  have e2 : (ns.take lo ++ dig n a x ++ ns.drop (lo + a)).drop (lo + a + b) = ns.drop (lo + (a + b)) := by
    have : (ns.take lo ++ dig n a x).length = lo + a := by rw [List.length_append, dig_len, List.length_take]; omega
    rw [List.drop_append, List.drop_eq_nil_of_le (by rw [this]; omega), List.nil_append, this, List.drop_drop]
    congr 1; omega
  rw [e1, e2]
  simp only [List.append_assoc]
theorem fill_all {ns : List Int} {n : Nat} {x : Int} : fill ns n 0 ns.length x = dig n ns.length x := by
  unfold fill
  simp
theorem toNat_mul' {a b : Int} (ha : 0 ≤ a) (hb : 0 ≤ b) : (a * b).toNat = b.toNat * a.toNat := by
  obtain ⟨x, rfl⟩ := Int.eq_ofNat_of_zero_le ha
  obtain ⟨y, rfl⟩ := Int.eq_ofNat_of_zero_le hb
  rw [← Int.natCast_mul, Int.toNat_natCast, Int.toNat_natCast, Int.toNat_natCast, Nat.mul_comm]
theorem half_dig {x lo M hi n : Int} (hx : 0 ≤ x) (hlo : lo < M) (hhi : M < hi) (hn : 0 < n) (hns : n * (hi - lo) ≤ 2 ^ 26) (hxn : x < 2 ^ (n.toNat * (hi - lo).toNat)) :
    ((M - lo) * n).toNat = n.toNat * (M - lo).toNat ∧ 0 ≤ x / 2 ^ (n.toNat * (M - lo).toNat) ∧ x / 2 ^ (n.toNat * (M - lo).toNat) < 2 ^ (n.toNat * (hi - M).toNat) ∧
    (Builtin.Int.intBits (x / 2 ^ (n.toNat * (M - lo).toNat)) : Int) + (M - lo) * n ≤ 2 ^ 27 ∧ n * (M - lo) ≤ 2 ^ 26 ∧ n * (hi - M) ≤ 2 ^ 26 ∧ 0 ≤ (M - lo) * n := by
  have hp := pow_pos' (n.toNat * (M - lo).toNat)
  have e1 := toNat_mul' (show 0 ≤ M - lo by omega) (Int.le_of_lt hn)
  have h0 : 0 ≤ x / 2 ^ (n.toNat * (M - lo).toNat) := Int.ediv_nonneg hx (by omega)
  have h1 : x / 2 ^ (n.toNat * (M - lo).toNat) < 2 ^ (n.toNat * (hi - M).toNat) := by
    refine Int.ediv_lt_of_lt_mul hp ?_
    rw [← Int.pow_add, ← Nat.mul_add, show (hi - M).toNat + (M - lo).toNat = (hi - lo).toNat by omega]
    exact hxn
  have h2 : n * (hi - lo) = n * (M - lo) + n * (hi - M) := by rw [← Int.mul_add]; congr 1; omega
  have h3 : 0 ≤ n * (M - lo) := Int.mul_nonneg (by omega) (by omega)
  have h4 : 0 ≤ n * (hi - M) := Int.mul_nonneg (by omega) (by omega)
  have h5 := lt_pow_bits h0 h1
  have h6 : ((n.toNat * (hi - M).toNat : Nat) : Int) = n * (hi - M) := by
    rw [Int.natCast_mul, Int.toNat_of_nonneg (by omega), Int.toNat_of_nonneg (by omega)]
  rw [h6] at h5
  refine ⟨e1, h0, h1, ?_, by omega, by omega, by rw [Int.mul_comm]; exact h3⟩
  rw [Int.mul_comm (M - lo) n]
  omega
theorem mid_facts {lo hi : Int} {d : Nat} (h : lo + 1 < hi) (hd : hi - lo ≤ 2 ^ (d + 1)) : lo < (lo + hi) / 2 ∧ (lo + hi) / 2 < hi ∧ (lo + hi) / 2 - lo ≤ 2 ^ d ∧ hi - (lo + hi) / 2 ≤ 2 ^ d := by
  rw [Int.pow_succ] at hd
  omega
theorem mulOk_small {x y : Int} (h0 : 0 ≤ x) (h : x < 2 ^ 63) : IntMulOk x y := .of_left (intBits_le_64 (by omega) (by omega))
/-- how many digits -/
noncomputable def cnt (a n : Int) : Int := ((Builtin.Int.intBits a : Int) + n - 1) / n
theorem cnt_facts {a n : Int} (ha : 0 ≤ a) (hn : 0 < n) (hn2 : n ≤ 2 ^ 22) (hb : Builtin.Int.intBits a ≤ 2 ^ 22) :
    0 ≤ cnt a n ∧ n * cnt a n ≤ 2 ^ 26 ∧ a < 2 ^ (n.toNat * (cnt a n).toNat) ∧ (0 < a → 0 < cnt a n) ∧ (a = 0 → cnt a n = 0) := by
  have hb' : (Builtin.Int.intBits a : Int) ≤ 2 ^ 22 := by omega
  have e := Int.ediv_mul_add_emod ((Builtin.Int.intBits a : Int) + n - 1) n
  have m0 := Int.emod_nonneg ((Builtin.Int.intBits a : Int) + n - 1) (show n ≠ 0 by omega)
  have m1 := Int.emod_lt_of_pos ((Builtin.Int.intBits a : Int) + n - 1) hn
  have c0 : 0 ≤ cnt a n := Int.ediv_nonneg (by omega) (by omega)
  have hc : n * cnt a n = (Builtin.Int.intBits a : Int) + n - 1 - ((Builtin.Int.intBits a : Int) + n - 1) % n := by
    rw [Int.mul_comm]; unfold cnt; omega
  refine ⟨c0, by omega, ?_, ?_, ?_⟩
  · by_cases h0 : a = 0
    · subst h0; exact pow_pos' _
    · have h1 := (intBits_pos (show 0 < a by omega)).2
      have h2 : Builtin.Int.intBits a ≤ n.toNat * (cnt a n).toNat := by
        have : ((n.toNat * (cnt a n).toNat : Nat) : Int) = n * cnt a n := by rw [Int.natCast_mul, Int.toNat_of_nonneg (by omega), Int.toNat_of_nonneg c0]
        omega
      have h3 : (2 : Int) ^ (Builtin.Int.intBits a) ≤ 2 ^ (n.toNat * (cnt a n).toNat) := by
        have := Nat.pow_le_pow_right (show 0 < 2 by decide) h2
        have e1 : ((2 : Int) ^ (Builtin.Int.intBits a)) = ((2 ^ (Builtin.Int.intBits a) : Nat) : Int) := by simp
        have e2 : ((2 : Int) ^ (n.toNat * (cnt a n).toNat)) = ((2 ^ (n.toNat * (cnt a n).toNat) : Nat) : Int) := by simp
        rw [e1, e2]; exact Int.ofNat_le.mpr this
      omega
  · intro h
    have h1 : 1 ≤ Builtin.Int.intBits a := intBits_ge_of (k := 0) (by rw [Int.pow_zero]; omega)
    rcases Int.lt_or_le 0 (cnt a n) with h2 | h2
    · exact h2
    · have h3 : cnt a n = 0 := by omega
      rw [h3, Int.mul_zero] at hc
      omega
  · intro h
    unfold cnt
    subst h
    rw [intBits_zero]
    exact Int.ediv_eq_zero_of_lt (by omega) (by omega)
/-- the number of some digits, the lowest first -/
noncomputable def undig (n : Nat) : List Int → Int
  | [] => 0
  | x :: r => x + 2 ^ n * undig n r
theorem undig_append (n : Nat) : ∀ (a b : List Int), undig n (a ++ b) = undig n a + 2 ^ (n * a.length) * undig n b
  | [], b => by simp [undig]
  | x :: a, b => by
    have ih := undig_append n a b
    rw [List.cons_append, undig, undig, ih, Int.mul_add, ← Int.mul_assoc, ← Int.pow_add, List.length_cons, Nat.mul_add, Nat.mul_one, Nat.add_comm n]
    omega
noncomputable def AreDigits (n : Nat) (l : List Int) : Prop := ∀ x ∈ l, 0 ≤ x ∧ x < 2 ^ n
theorem undig_bound {n : Nat} : ∀ {l : List Int}, AreDigits n l → 0 ≤ undig n l ∧ undig n l < 2 ^ (n * l.length)
  | [], _ => by simp [undig]
  | x :: r, h => by
    have ih := undig_bound (l := r) fun y hy => h y (.tail _ hy)
    have hx := h x (.head _)
    have hp := pow_pos' n
    have e : (2 : Int) ^ (n * (x :: r).length) = 2 ^ n * 2 ^ (n * r.length) := by rw [← Int.pow_add, List.length_cons, Nat.mul_add, Nat.mul_one, Nat.add_comm n]
    rw [undig, e]
    have h1 : 0 ≤ 2 ^ n * undig n r := Int.mul_nonneg (by omega) ih.1
    have h2 : 2 ^ n * (undig n r + 1) ≤ 2 ^ n * 2 ^ (n * r.length) := Int.mul_le_mul_of_nonneg_left (by omega) (by omega)
    rw [Int.mul_add, Int.mul_one] at h2
    omega
/-- the digits from lo to hi -/
noncomputable def part (ns : List Int) (lo hi : Nat) : List Int := (ns.drop lo).take (hi - lo)
theorem part_len {ns : List Int} {lo hi : Nat} (h : hi ≤ ns.length) (_h2 : lo ≤ hi) : (part ns lo hi).length = hi - lo := by
  unfold part
  rw [List.length_take, List.length_drop]; omega
theorem part_split {ns : List Int} {lo mid hi : Nat} (h1 : lo ≤ mid) (h2 : mid ≤ hi) : part ns lo hi = part ns lo mid ++ part ns mid hi := by
  unfold part
  rw [show hi - lo = (mid - lo) + (hi - mid) by omega, List.take_add, List.drop_drop, show lo + (mid - lo) = mid by omega]
theorem part_digits {n : Nat} {ns : List Int} {lo hi : Nat} (h : AreDigits n ns) : AreDigits n (part ns lo hi) := fun x hx =>
  h x (List.mem_of_mem_drop (List.mem_of_mem_take hx))
theorem part_one {ns : List Int} {lo : Nat} (h : lo < ns.length) : part ns lo (lo + 1) = [ns.getD lo 0] := by
  unfold part
  rw [show lo + 1 - lo = 1 by omega, List.drop_eq_getElem_cons h, List.take_succ_cons, List.take_zero]
  simp [h]
theorem part_all {ns : List Int} : part ns 0 ns.length = ns := by
  unfold part; simp
theorem undig_dig {n : Nat} : ∀ (c : Nat) (x : Int), 0 ≤ x → x < 2 ^ (n * c) → undig n (dig n c x) = x
  | 0, x, h0, h1 => by rw [Nat.mul_zero, Int.pow_zero] at h1; rw [dig, undig]; omega
  | c + 1, x, h0, h1 => by
    have hp := pow_pos' n
    rw [dig, undig, undig_dig c (x / 2 ^ n) (Int.ediv_nonneg h0 (by omega)) (Int.ediv_lt_of_lt_mul hp (by rw [← Int.pow_add]; rw [Nat.mul_add, Nat.mul_one] at h1; exact h1))]
    have := Int.ediv_mul_add_emod x (2 ^ n)
    rw [Int.mul_comm (2 ^ n)]; omega
theorem dig_digits {n : Nat} : ∀ (c : Nat) (x : Int), AreDigits n (dig n c x)
  | 0, _ => fun _ h => nomatch h
  | c + 1, x => by
    have hp := pow_pos' n
    intro y hy
    rcases List.mem_cons.mp hy with rfl | hy
    · exact ⟨Int.emod_nonneg _ (by omega), Int.emod_lt_of_pos _ hp⟩
    · exact dig_digits c _ y hy
end
-- C4
theorem fresh_C4 : True := by
  w_top off
  exact trivial
section
/-- as CallOk, for what makes or calls the text's inner defs -/
noncomputable def CallOkC (w : World) (p : Program) (loose : List Str) (mean : ExcName → Option Value) (mg mb : Str → Option Value) (f : Addr) (vs : List Value) (dd uu : Nat) (news : Led)
    (Out : Value → Led → Prop) : Prop :=
  ∀ (dp un : Nat) (gd : Option (List Code)) (cn : Str) (cs : Scope) (a : Addr) (ccd : Value) (cl : List (Str × Addr)) (outer : List Env) (A₀ : Around) (base h₀ : Heap) (L : Addr) (m : Str → Option Value) (s : Shared)
    (Q E : Value → Shared → Prop),
    Below A₀ base outer h₀ → Fr h₀ L s.heap m → (hd.heap_39 w.params).In h₀ → News h₀ L s.heap news → Top p loose mean mg mb h₀ → cs.kind = .function → CodeHd h₀ 41 37 → CodeHd h₀ 48 44 → dp + dd < recursionLimit → un + uu < cLine →
    (∀ r news' h' tk', Fr h₀ L h' m → News h₀ L h' news' → Out r news' → Q r { s with heap := h', toks := tk' }) →
    wpAny (model PySem.Challenge.pw_sr0065_01 w) (ktrTop dp un gd cn cs L a ccd cl outer) (call (.ref f) vs) Q E s
theorem CallOkC.use {w : World} {p : Program} {loose : List Str} {mean : ExcName → Option Value} {mg mb : Str → Option Value} {f : Addr} {vs : List Value} {dd uu : Nat} {news : Led} {Out : Value → Led → Prop}
    (C : CallOkC w p loose mean mg mb f vs dd uu news Out)
    {dp un : Nat} {gd : Option (List Code)} {cn : Str} {cs : Scope} {a : Addr} {ccd : Value} {cl : List (Str × Addr)} {outer : List Env} {A₀ : Around} {base h₀ : Heap} {L : Addr} {m : Str → Option Value} {s : Shared}
    {Q E : Value → Shared → Prop} {news₀ : Led} (B : Below A₀ base outer h₀) (F : Fr h₀ L s.heap m) (X : (hd.heap_39 w.params).In h₀) (N : News h₀ L s.heap news₀) (hsub : ∀ p ∈ news, p ∈ news₀) (T : Top p loose mean mg mb h₀) (hk : cs.kind = .function) (hC1 : CodeHd h₀ 41 37) (hC2 : CodeHd h₀ 48 44)
    (h1 : dp + dd < recursionLimit) (h2 : un + uu < cLine)
    (ret : ∀ r news' h' tk', Fr h₀ L h' m → News h₀ L h' news' → Out r news' → Q r { s with heap := h', toks := tk' }) :
    wpAny (model PySem.Challenge.pw_sr0065_01 w) (ktrTop dp un gd cn cs L a ccd cl outer) (call (.ref f) vs) Q E s :=
  C dp un gd cn cs a ccd cl outer A₀ base h₀ L m s Q E B F X (cb_drop N hsub) T hk hC1 hC2 h1 h2 ret
noncomputable def OffTabs (rest : Led) : Prop := ∀ q ∈ rest, 44 < q.1
theorem OffTabs.ne37 {rest : Led} (h : OffTabs rest) : ∀ p ∈ rest, p.1 ≠ 37 := fun p hp q => by have := h p hp; rw [q] at this; exact absurd this (by decide)
theorem OffTabs.ne44 {rest : Led} (h : OffTabs rest) : ∀ p ∈ rest, p.1 ≠ 44 := fun p hp q => by have := h p hp; rw [q] at this; exact absurd this (by decide)
theorem cells_lt {x : Nat} {news : Led} (h : ∀ p ∈ news, p.1 < x) : AllLt (x + 1) news ∧ AllLt (x + 1 + 1) news ∧ AllLt (x + 1 + 1 + 1) news :=
  ⟨allLt_of fun p hp => Nat.lt_succ_of_lt (h p hp), allLt_of fun p hp => Nat.lt_succ_of_lt (Nat.lt_succ_of_lt (h p hp)), allLt_of fun p hp => Nat.lt_succ_of_lt (Nat.lt_succ_of_lt (Nat.lt_succ_of_lt (h p hp)))⟩
noncomputable def obj42 (P : Params) : {o : Obj // (hd.heap_39 P).lookup 42 = some o} := ⟨_, by k_is⟩
noncomputable def obj49 (P : Params) : {o : Obj // (hd.heap_39 P).lookup 49 = some o} := ⟨_, by k_is⟩
noncomputable def stmtsOf (o : Obj) : List Stmt := match o.data with
  | .func fd => (match fd.body with | .stmts b => b | _ => [])
  | _ => []
noncomputable def sParts (st : Stmt) : (Arguments × List Stmt) × (Scope × Expr) := match st with
  | .FunctionDef _ a b _ _ _ sc _ _ _ => ((a, b), (sc, default))
  | .For _ _ b _ _ => ((default, b), (default, default))
  | .Assign _ v _ => ((default, []), (default, v))
  | .If t _ _ _ => ((default, []), (default, t))
  | _ => ((default, []), (default, default))
noncomputable abbrev defParams (st : Stmt) : Arguments := (sParts st).1.1
noncomputable abbrev defBody (st : Stmt) : List Stmt := (sParts st).1.2
noncomputable abbrev defScope (st : Stmt) : Scope := (sParts st).2.1
noncomputable abbrev in42 (P : Params) : Stmt := ((stmtsOf (obj42 P).1)[1]?).getD (.Pass default)
noncomputable abbrev in49 (P : Params) : Stmt := ((stmtsOf (obj49 P).1)[0]?).getD (.Pass default)
noncomputable abbrev fn42 (P : Params) (qual : Str) (cn ci ca : Addr) (doc pm : Value) (c' : Addr) (ctv : Value) : Obj :=
  fnMade (Str.ofString "inner") qual (defParams (in42 P)) (defBody (in42 P)) (defScope (in42 P)) [(Str.ofString "n", cn), (Str.ofString "inner", ci), (Str.ofString "a_digits", ca)] doc pm c' ctv
noncomputable abbrev led42 (P : Params) (f c' D ci ca cn : Addr) (qual : Str) (doc pm ctv : Value) (oc oi oa on : Obj) (vs : List Value) (k : Nat) (rest : Led) : Led :=
  (f, fn42 P qual cn ci ca doc pm c' ctv) :: (c', oc) :: (D, listOf vs.toArray k) :: (ci, oi) :: (ca, oa) :: (cn, on) :: rest
structure Facts42 (f c' D ci ca cn : Addr) (qual : Str) (oc oi oa on : Obj) (ws : Array Value) (t : Tok) (n : Int) (tn : Tok) (rest : Led) : Prop where
  c : oc.data = .fields ws
  q : ws[1]? = some (.str qual t)
  i : oi.data = .cell (some (.ref f))
  a : oa.data = .cell (some (.ref D))
  n : on.data = .cell (some (.int n tn))
  ne : @Ne Nat f D ∧ @Ne Nat c' D ∧ @Ne Nat ci D ∧ @Ne Nat ca D ∧ @Ne Nat cn D
  nr : ∀ p ∈ rest, p.1 ≠ D
noncomputable def I42 (w : World) (p : Program) (loose : List Str) (mean : ExcName → Option Value) (mg mb : Str → Option Value) (d : Nat) : Prop :=
  ∀ (x lo hi n : Int) (tx tl th tn : Tok) (f c' D ci ca cn : Addr) (qual : Str) (doc pm ctv : Value) (oc oi oa on : Obj) (ws : Array Value) (t : Tok) (vs : List Value) (ns : List Int) (k : Nat) (rest : Led),
    Facts42 f c' D ci ca cn qual oc oi oa on ws t n tn rest → IntsAre vs ns →
    Pre (0 ≤ x ∧ 0 ≤ lo ∧ lo < hi ∧ hi - lo ≤ 2 ^ d ∧ hi ≤ ns.length ∧ (ns.length : Int) ≤ 2 ^ 15 ∧ 0 < n ∧ n * (hi - lo) ≤ 2 ^ 26 ∧ x < 2 ^ (n.toNat * (hi - lo).toNat)) →
    CallOkC w p loose mean mg mb f [.int x tx, .int lo tl, .int hi th] (d + 1) (8 * d + 8) (led42 w.params f c' D ci ca cn qual doc pm ctv oc oi oa on vs k rest)
      fun r news' => r = .none ∧ ∃ vs', IntsAre vs' (fill ns n.toNat lo.toNat (hi - lo).toNat x) ∧ news' = led42 w.params f c' D ci ca cn qual doc pm ctv oc oi oa on vs' k rest
end
-- C5
theorem fresh_C5 : True := by
  w_top off
  exact trivial
local macro_rules | `(tactic| k_all) => `(tactic| first | exact OffTabs.ne37 (by assumption) | exact OffTabs.ne44 (by assumption) | assumption)
local macro_rules | `(tactic| walk_at "inplaceOp Mult int int") => `(tactic| (k_here; refine imul_P ?_ ?_))
local macro_rules | `(tactic| walk_at "binaryOp FloorDiv int int") => `(tactic| (k_here; refine floordiv_P ?_ ?_))
section
variable (w : World) (p : Program) (loose : List Str) (mean : ExcName → Option Value) (mg mb : Str → Option Value)
theorem pw27 {x : Int} (h : x ≤ 2 ^ 27) : x ≤ 134217728 := h
theorem pw26 {x : Int} (h : x ≤ 2 ^ 26) : x ≤ 67108864 := h
theorem pw15 {x : Int} (h : x ≤ 2 ^ 15) : x ≤ 32768 := h
end
namespace Ci42baseI
noncomputable def Pq (w : World) (p : Program) (loose : List Str) (mean : ExcName → Option Value) (mg : Str → Option Value) (mb : Str → Option Value) (d : Nat) (x : Int) (lo : Int) (hi : Int) (n : Int) (tx : Tok) (tl : Tok) (th : Tok) (tn : Tok) (f : Addr) (c' : Addr) (D : Addr) (ci : Addr) (ca : Addr) (cn : Addr) (qual : Str) (doc : Value) (pm : Value) (ctv : Value) (oc : Obj) (oi : Obj) (oa : Obj) (on : Obj) (ws : Array Value) (t : Tok) (vs : List Value) (ns : List Int) (k : Nat) (rest : Led) (dp : Nat) (un : Nat) (gd : Option (List Code)) (cn' : Str) (cs : Scope) (a' : Addr) (ccd : Value) (cl : List (Str × Addr)) (outer : List Env) (A₀ : Around) (base : Heap) (h₀ : Heap) (L : Addr) (m : Str → Option Value) (s : Shared) (Q : Value → Shared → Prop) (E : Value → Shared → Prop) : Prop := ∀ (H : Facts42 f c' D ci ca cn qual oc oi oa on ws t n tn rest) (hvs : IntsAre vs ns) (hx : 0 ≤ x) (hlo : 0 ≤ lo) (hhi : lo + 1 = hi) (hlen : hi ≤ ns.length) (hmax : (ns.length : Int) ≤ 2 ^ 15) (hn : 0 < n) (hxn : x < 2 ^ n.toNat) (B : Below A₀ base outer h₀) (F : Fr h₀ L s.heap m) (X : (hd.heap_39 w.params).In h₀) (N : News h₀ L s.heap (led42 w.params f c' D ci ca cn qual doc pm ctv oc oi oa on vs k rest)) (T : Top p loose mean mg mb h₀) (hk : cs.kind = .function) (hC1 : CodeHd h₀ 41 37) (hC2 : CodeHd h₀ 48 44) (hd : dp + (d + 1) < recursionLimit) (hu : un + (8 * d + 8) < cLine) (hret : ∀ r news' h' tk', Fr h₀ L h' m → News h₀ L h' news' → (r = .none ∧ ∃ vs', IntsAre vs' (fill ns n.toNat lo.toNat (hi - lo).toNat x) ∧ news' = led42 w.params f c' D ci ca cn qual doc pm ctv oc oi oa on vs' k rest) → Q r { s with heap := h', toks := tk' }),
    wpAny (model PySem.Challenge.pw_sr0065_01 w) (ktrTop dp un gd cn' cs L a' ccd cl outer) (call (.ref f) [.int x tx, .int lo tl, .int hi th]) Q E s
noncomputable abbrev Tq : Type := ((((((World × Program) × ((List Str) × (ExcName → Option Value))) × (((Str → Option Value) × (Str → Option Value)) × Nat)) × (((Int × Int) × Int) × ((Int × Tok) × Tok))) × ((((Tok × Tok) × (Addr × Addr)) × ((Addr × Addr) × Addr)) × (((Addr × Str) × Value) × ((Value × Value) × Obj)))) × (((((Obj × Obj) × (Obj × (Array Value))) × ((Tok × (List Value)) × (List Int))) × (((Nat × Led) × Nat) × ((Nat × (Option (List Code))) × Str))) × ((((Scope × Addr) × (Value × (List (Str × Addr)))) × (((List Env) × Around) × Heap)) × (((Heap × Addr) × (Str → Option Value)) × ((Shared × (Value → Shared → Prop)) × (Value → Shared → Prop))))))
theorem exq : ∃ t : Tq, Pq t.1.1.1.1.1.1 t.1.1.1.1.1.2 t.1.1.1.1.2.1 t.1.1.1.1.2.2 t.1.1.1.2.1.1 t.1.1.1.2.1.2 t.1.1.1.2.2 t.1.1.2.1.1.1 t.1.1.2.1.1.2 t.1.1.2.1.2 t.1.1.2.2.1.1 t.1.1.2.2.1.2 t.1.1.2.2.2 t.1.2.1.1.1.1 t.1.2.1.1.1.2 t.1.2.1.1.2.1 t.1.2.1.1.2.2 t.1.2.1.2.1.1 t.1.2.1.2.1.2 t.1.2.1.2.2 t.1.2.2.1.1.1 t.1.2.2.1.1.2 t.1.2.2.1.2 t.1.2.2.2.1.1 t.1.2.2.2.1.2 t.1.2.2.2.2 t.2.1.1.1.1.1 t.2.1.1.1.1.2 t.2.1.1.1.2.1 t.2.1.1.1.2.2 t.2.1.1.2.1.1 t.2.1.1.2.1.2 t.2.1.1.2.2 t.2.1.2.1.1.1 t.2.1.2.1.1.2 t.2.1.2.1.2 t.2.1.2.2.1.1 t.2.1.2.2.1.2 t.2.1.2.2.2 t.2.2.1.1.1.1 t.2.2.1.1.1.2 t.2.2.1.1.2.1 t.2.2.1.1.2.2 t.2.2.1.2.1.1 t.2.2.1.2.1.2 t.2.2.1.2.2 t.2.2.2.1.1.1 t.2.2.2.1.1.2 t.2.2.2.1.2 t.2.2.2.2.1.1 t.2.2.2.2.1.2 t.2.2.2.2.2 → ∀ t : Tq, Pq t.1.1.1.1.1.1 t.1.1.1.1.1.2 t.1.1.1.1.2.1 t.1.1.1.1.2.2 t.1.1.1.2.1.1 t.1.1.1.2.1.2 t.1.1.1.2.2 t.1.1.2.1.1.1 t.1.1.2.1.1.2 t.1.1.2.1.2 t.1.1.2.2.1.1 t.1.1.2.2.1.2 t.1.1.2.2.2 t.1.2.1.1.1.1 t.1.2.1.1.1.2 t.1.2.1.1.2.1 t.1.2.1.1.2.2 t.1.2.1.2.1.1 t.1.2.1.2.1.2 t.1.2.1.2.2 t.1.2.2.1.1.1 t.1.2.2.1.1.2 t.1.2.2.1.2 t.1.2.2.2.1.1 t.1.2.2.2.1.2 t.1.2.2.2.2 t.2.1.1.1.1.1 t.2.1.1.1.1.2 t.2.1.1.1.2.1 t.2.1.1.1.2.2 t.2.1.1.2.1.1 t.2.1.1.2.1.2 t.2.1.1.2.2 t.2.1.2.1.1.1 t.2.1.2.1.1.2 t.2.1.2.1.2 t.2.1.2.2.1.1 t.2.1.2.2.1.2 t.2.1.2.2.2 t.2.2.1.1.1.1 t.2.2.1.1.1.2 t.2.2.1.1.2.1 t.2.2.1.1.2.2 t.2.2.1.2.1.1 t.2.2.1.2.1.2 t.2.2.1.2.2 t.2.2.2.1.1.1 t.2.2.2.1.1.2 t.2.2.2.1.2 t.2.2.2.2.1.1 t.2.2.2.2.1.2 t.2.2.2.2.2 := dk (α := Tq) (((((((aWorld 0, default), (default, (fun _ => default))), (((fun _ => default), (fun _ => default)), default)), (((default, default), default), ((default, default), default))), ((((default, default), (default, default)), ((default, default), default)), (((default, default), default), ((default, default), default)))), (((((default, default), (default, default)), ((default, default), default)), (((default, default), default), ((default, default), default))), ((((default, default), (default, default)), ((default, ({} : Around)), default)), (((default, default), (fun _ => default)), ((({} : Shared), (fun _ _ => True)), (fun _ _ => True))))))) _
noncomputable def cq : Tq := Classical.choose exq
@[irreducible] noncomputable def w : World := cq.1.1.1.1.1.1
@[irreducible] noncomputable def p : Program := cq.1.1.1.1.1.2
@[irreducible] noncomputable def loose : List Str := cq.1.1.1.1.2.1
@[irreducible] noncomputable def mean : ExcName → Option Value := cq.1.1.1.1.2.2
@[irreducible] noncomputable def mg : Str → Option Value := cq.1.1.1.2.1.1
@[irreducible] noncomputable def mb : Str → Option Value := cq.1.1.1.2.1.2
@[irreducible] noncomputable def d : Nat := cq.1.1.1.2.2
@[irreducible] noncomputable def x : Int := cq.1.1.2.1.1.1
@[irreducible] noncomputable def lo : Int := cq.1.1.2.1.1.2
@[irreducible] noncomputable def hi : Int := cq.1.1.2.1.2
@[irreducible] noncomputable def n : Int := cq.1.1.2.2.1.1
@[irreducible] noncomputable def tx : Tok := cq.1.1.2.2.1.2
@[irreducible] noncomputable def tl : Tok := cq.1.1.2.2.2
@[irreducible] noncomputable def th : Tok := cq.1.2.1.1.1.1
@[irreducible] noncomputable def tn : Tok := cq.1.2.1.1.1.2
@[irreducible] noncomputable def f : Addr := cq.1.2.1.1.2.1
@[irreducible] noncomputable def c' : Addr := cq.1.2.1.1.2.2
@[irreducible] noncomputable def D : Addr := cq.1.2.1.2.1.1
@[irreducible] noncomputable def ci : Addr := cq.1.2.1.2.1.2
@[irreducible] noncomputable def ca : Addr := cq.1.2.1.2.2
@[irreducible] noncomputable def cn : Addr := cq.1.2.2.1.1.1
@[irreducible] noncomputable def qual : Str := cq.1.2.2.1.1.2
@[irreducible] noncomputable def doc : Value := cq.1.2.2.1.2
@[irreducible] noncomputable def pm : Value := cq.1.2.2.2.1.1
@[irreducible] noncomputable def ctv : Value := cq.1.2.2.2.1.2
@[irreducible] noncomputable def oc : Obj := cq.1.2.2.2.2
@[irreducible] noncomputable def oi : Obj := cq.2.1.1.1.1.1
@[irreducible] noncomputable def oa : Obj := cq.2.1.1.1.1.2
@[irreducible] noncomputable def on : Obj := cq.2.1.1.1.2.1
@[irreducible] noncomputable def ws : Array Value := cq.2.1.1.1.2.2
@[irreducible] noncomputable def t : Tok := cq.2.1.1.2.1.1
@[irreducible] noncomputable def vs : List Value := cq.2.1.1.2.1.2
@[irreducible] noncomputable def ns : List Int := cq.2.1.1.2.2
@[irreducible] noncomputable def k : Nat := cq.2.1.2.1.1.1
@[irreducible] noncomputable def rest : Led := cq.2.1.2.1.1.2
@[irreducible] noncomputable def dp : Nat := cq.2.1.2.1.2
@[irreducible] noncomputable def un : Nat := cq.2.1.2.2.1.1
@[irreducible] noncomputable def gd : Option (List Code) := cq.2.1.2.2.1.2
@[irreducible] noncomputable def cn' : Str := cq.2.1.2.2.2
@[irreducible] noncomputable def cs : Scope := cq.2.2.1.1.1.1
@[irreducible] noncomputable def a' : Addr := cq.2.2.1.1.1.2
@[irreducible] noncomputable def ccd : Value := cq.2.2.1.1.2.1
@[irreducible] noncomputable def cl : List (Str × Addr) := cq.2.2.1.1.2.2
@[irreducible] noncomputable def outer : List Env := cq.2.2.1.2.1.1
@[irreducible] noncomputable def A₀ : Around := cq.2.2.1.2.1.2
@[irreducible] noncomputable def base : Heap := cq.2.2.1.2.2
@[irreducible] noncomputable def h₀ : Heap := cq.2.2.2.1.1.1
@[irreducible] noncomputable def L : Addr := cq.2.2.2.1.1.2
@[irreducible] noncomputable def m : Str → Option Value := cq.2.2.2.1.2
@[irreducible] noncomputable def s : Shared := cq.2.2.2.2.1.1
@[irreducible] noncomputable def Q : Value → Shared → Prop := cq.2.2.2.2.1.2
@[irreducible] noncomputable def E : Value → Shared → Prop := cq.2.2.2.2.2
noncomputable def cutq : {G : Prop // (∀ (H : Facts42 f c' D ci ca cn qual oc oi oa on ws t n tn rest) (hvs : IntsAre vs ns) (hx : 0 ≤ x) (hlo : 0 ≤ lo) (hhi : lo + 1 = hi) (hlen : hi ≤ ns.length) (hmax : (ns.length : Int) ≤ 2 ^ 15) (hn : 0 < n) (hxn : x < 2 ^ n.toNat) (B : Below A₀ base outer h₀) (F : Fr h₀ L s.heap m) (X : (hd.heap_39 w.params).In h₀) (N : News h₀ L s.heap (led42 w.params f c' D ci ca cn qual doc pm ctv oc oi oa on vs k rest)) (T : Top p loose mean mg mb h₀) (hk : cs.kind = .function) (hC1 : CodeHd h₀ 41 37) (hC2 : CodeHd h₀ 48 44) (hd : dp + (d + 1) < recursionLimit) (hu : un + (8 * d + 8) < cLine) (hret : ∀ r news' h' tk', Fr h₀ L h' m → News h₀ L h' news' → (r = .none ∧ ∃ vs', IntsAre vs' (fill ns n.toNat lo.toNat (hi - lo).toNat x) ∧ news' = led42 w.params f c' D ci ca cn qual doc pm ctv oc oi oa on vs' k rest) → Q r { s with heap := h', toks := tk' }), G) → Pq w p loose mean mg mb d x lo hi n tx tl th tn f c' D ci ca cn qual doc pm ctv oc oi oa on ws t vs ns k rest dp un gd cn' cs a' ccd cl outer A₀ base h₀ L m s Q E} := ⟨_, fun h9z => by
  unfold Pq
  intro H hvs hx hlo hhi hlen hmax hn hxn B F X N T hk hC1 hC2 hd hu hret
  have h9y := fun (_ : Unit) => h9z H hvs hx hlo hhi hlen hmax hn hxn B F X N T hk hC1 hC2 hd hu hret
  obtain ⟨f1, f2, f3, f4, f5, f6, f7⟩ := H
  dsimp only [led42, fn42, in42, obj42, stmtsOf, defBody, defParams, defScope, sParts, List.getElem?_cons_succ, List.getElem?_cons_zero, Option.getD_some] at N hret
  refine wpAny_call ?_
  (k_dflt (refine' code_nest ?k1u1 ?k2u1 ?k3u1 ?k4u1 ?k5u1 ?kAu1 ?kFu1 ?kKu1 ?k6u1 ?k7u1 ?k8u1 ?k9u1 ?kBu1 ?_ ?c2u1 ?c3u1 ?c4u1 ?c5u1; (case kAu1 => exact rfl); (case kFu1 => exact rfl); (case kKu1 => assumption); (case k1u1 | k2u1 | k3u1 | k4u1 | k5u1 => k_asm); (case k6u1 => k_mem); (case k7u1 => exact codeRec_news (by k_asm) (by k_mem) (by assumption) (by assumption)); (case k8u1 => ktr_room); (case k9u1 => exact BindsTo.of_eq rfl); (case c5u1 => decide); (case kBu1 => exact locs rfl); (case c2u1 => exact rfl); (case c3u1 => exact rfl); (case c4u1 => exact rfl); k_whole; intro gz Lz hz FGz Fz Nz Bz Xz Tz; (have Cz := CodeHd.keeps (c := 41) (P := 37) (by assumption) (Fr.keep FGz)); (have Dz := CodeHd.keeps (c := 48) (P := 44) (by assumption) (Fr.keep FGz)); (try dsimp only); (try k_fold)))
  revert Dz
  revert Cz
  revert Tz
  revert Xz
  revert Bz
  revert Nz
  revert Fz
  revert FGz
  revert hz
  revert Lz
  revert gz
  exact h9y ()⟩
noncomputable def pcq : {Pc : Heap → Addr → Heap → Prop // (∀ a b c, Pc a b c) → cutq.1} := ⟨_, fun h => h⟩
theorem exc : ∃ t : ((Heap × Addr) × Heap), pcq.1 t.1.1 t.1.2 t.2 → ∀ t : ((Heap × Addr) × Heap), pcq.1 t.1.1 t.1.2 t.2 := dk (α := ((Heap × Addr) × Heap)) ((default, default), default) _
noncomputable def ccq : ((Heap × Addr) × Heap) := Classical.choose exc
@[irreducible] noncomputable def gz : Heap := ccq.1.1
@[irreducible] noncomputable def Lz : Addr := ccq.1.2
@[irreducible] noncomputable def hz : Heap := ccq.2
theorem core2 (H : Facts42 f c' D ci ca cn qual oc oi oa on ws t n tn rest) (hvs : IntsAre vs ns) (hx : 0 ≤ x) (hlo : 0 ≤ lo) (hhi : lo + 1 = hi) (hlen : hi ≤ ns.length) (hmax : (ns.length : Int) ≤ 2 ^ 15) (hn : 0 < n) (hxn : x < 2 ^ n.toNat) (B : Below A₀ base outer h₀) (F : Fr h₀ L s.heap m) (X : (hd.heap_39 w.params).In h₀) (N : News h₀ L s.heap (led42 w.params f c' D ci ca cn qual doc pm ctv oc oi oa on vs k rest)) (T : Top p loose mean mg mb h₀) (hk : cs.kind = .function) (hC1 : CodeHd h₀ 41 37) (hC2 : CodeHd h₀ 48 44) (hd : dp + (d + 1) < recursionLimit) (hu : un + (8 * d + 8) < cLine) (hret : ∀ r news' h' tk', Fr h₀ L h' m → News h₀ L h' news' → (r = .none ∧ ∃ vs', IntsAre vs' (fill ns n.toNat lo.toNat (hi - lo).toNat x) ∧ news' = led42 w.params f c' D ci ca cn qual doc pm ctv oc oi oa on vs' k rest) → Q r { s with heap := h', toks := tk' }) : pcq.1 gz Lz hz := by
  obtain ⟨f1, f2, f3, f4, f5, f6, f7⟩ := H
  dsimp only [led42, fn42, in42, obj42, stmtsOf, defBody, defParams, defScope, sParts, List.getElem?_cons_succ, List.getElem?_cons_zero, Option.getD_some] at N hret
  intro FGz Fz Nz Bz Xz Tz Cz Dz
  walk_at "STEPS"
  all_goals (first | (with_reducible show Pre _) | refine hret _ _ _ _ (by k_asm) (by k_asm) ⟨rfl, _, ?_, rfl⟩)
  have e1 : (hi - lo).toNat = 1 := by omega
  rw [e1, ← fill_one hx hxn (by omega)]
  assumption
theorem coreq : Pq w p loose mean mg mb d x lo hi n tx tl th tn f c' D ci ca cn qual doc pm ctv oc oi oa on ws t vs ns k rest dp un gd cn' cs a' ccd cl outer A₀ base h₀ L m s Q E := by
  with_unfolding_all exact cutq.2 fun H hvs hx hlo hhi hlen hmax hn hxn B F X N T hk hC1 hC2 hd hu hret => pcq.2 fun a b c => Classical.choose_spec exc (core2 H hvs hx hlo hhi hlen hmax hn hxn B F X N T hk hC1 hC2 hd hu hret) ((a, b), c)
theorem allq (w : World) (p : Program) (loose : List Str) (mean : ExcName → Option Value) (mg : Str → Option Value) (mb : Str → Option Value) (d : Nat) (x : Int) (lo : Int) (hi : Int) (n : Int) (tx : Tok) (tl : Tok) (th : Tok) (tn : Tok) (f : Addr) (c' : Addr) (D : Addr) (ci : Addr) (ca : Addr) (cn : Addr) (qual : Str) (doc : Value) (pm : Value) (ctv : Value) (oc : Obj) (oi : Obj) (oa : Obj) (on : Obj) (ws : Array Value) (t : Tok) (vs : List Value) (ns : List Int) (k : Nat) (rest : Led) (dp : Nat) (un : Nat) (gd : Option (List Code)) (cn' : Str) (cs : Scope) (a' : Addr) (ccd : Value) (cl : List (Str × Addr)) (outer : List Env) (A₀ : Around) (base : Heap) (h₀ : Heap) (L : Addr) (m : Str → Option Value) (s : Shared) (Q : Value → Shared → Prop) (E : Value → Shared → Prop) : Pq w p loose mean mg mb d x lo hi n tx tl th tn f c' D ci ca cn qual doc pm ctv oc oi oa on ws t vs ns k rest dp un gd cn' cs a' ccd cl outer A₀ base h₀ L m s Q E := by
  with_unfolding_all exact Classical.choose_spec exq coreq ((((((w, p), (loose, mean)), ((mg, mb), d)), (((x, lo), hi), ((n, tx), tl))), ((((th, tn), (f, c')), ((D, ci), ca)), (((cn, qual), doc), ((pm, ctv), oc)))), (((((oi, oa), (on, ws)), ((t, vs), ns)), (((k, rest), dp), ((un, gd), cn'))), ((((cs, a'), (ccd, cl)), ((outer, A₀), base)), (((h₀, L), m), ((s, Q), E)))))
end Ci42baseI
section
variable (w : World) (p : Program) (loose : List Str) (mean : ExcName → Option Value) (mg mb : Str → Option Value)
theorem i42_baseI {d : Nat} {x lo hi n : Int} (tx tl th tn : Tok) {f c' D ci ca cn : Addr} {qual : Str} (doc pm ctv : Value) {oc oi oa on : Obj} {ws : Array Value} {t : Tok} {vs : List Value} {ns : List Int} (k : Nat) {rest : Led}
    (H : Facts42 f c' D ci ca cn qual oc oi oa on ws t n tn rest) (hvs : IntsAre vs ns) (hx : 0 ≤ x) (hlo : 0 ≤ lo) (hhi : lo + 1 = hi) (hlen : hi ≤ ns.length) (hmax : (ns.length : Int) ≤ 2 ^ 15) (hn : 0 < n) (hxn : x < 2 ^ n.toNat) {dp : Nat} {un : Nat} {gd : Option (List Code)} {cn' : Str} {cs : Scope} {a' : Addr} {ccd : Value} {cl : List (Str × Addr)} {outer : List Env} {A₀ : Around} {base : Heap} {h₀ : Heap} {L : Addr} {m : Str → Option Value} {s : Shared} {Q : Value → Shared → Prop} {E : Value → Shared → Prop}
    (B : Below A₀ base outer h₀) (F : Fr h₀ L s.heap m) (X : (hd.heap_39 w.params).In h₀) (N : News h₀ L s.heap (led42 w.params f c' D ci ca cn qual doc pm ctv oc oi oa on vs k rest)) (T : Top p loose mean mg mb h₀) (hk : cs.kind = .function) (hC1 : CodeHd h₀ 41 37) (hC2 : CodeHd h₀ 48 44) (hd : dp + (d + 1) < recursionLimit) (hu : un + (8 * d + 8) < cLine) (hret : ∀ r news' h' tk', Fr h₀ L h' m → News h₀ L h' news' → (r = .none ∧ ∃ vs', IntsAre vs' (fill ns n.toNat lo.toNat (hi - lo).toNat x) ∧ news' = led42 w.params f c' D ci ca cn qual doc pm ctv oc oi oa on vs' k rest) → Q r { s with heap := h', toks := tk' }) :
    wpAny (model PySem.Challenge.pw_sr0065_01 w) (ktrTop dp un gd cn' cs L a' ccd cl outer) (call (.ref f) [.int x tx, .int lo tl, .int hi th]) Q E s :=
  Ci42baseI.allq w p loose mean mg mb d x lo hi n tx tl th tn f c' D ci ca cn qual doc pm ctv oc oi oa on ws t vs ns k rest dp un gd cn' cs a' ccd cl outer A₀ base h₀ L m s Q E H hvs hx hlo hhi hlen hmax hn hxn B F X N T hk hC1 hC2 hd hu hret
theorem i42_base {d : Nat} {x lo hi n : Int} (tx tl th tn : Tok) {f c' D ci ca cn : Addr} {qual : Str} (doc pm ctv : Value) {oc oi oa on : Obj} {ws : Array Value} {t : Tok} {vs : List Value} {ns : List Int} (k : Nat) {rest : Led}
    (H : Facts42 f c' D ci ca cn qual oc oi oa on ws t n tn rest) (hvs : IntsAre vs ns) (hx : 0 ≤ x) (hlo : 0 ≤ lo) (hhi : lo + 1 = hi) (hlen : hi ≤ ns.length) (hmax : (ns.length : Int) ≤ 2 ^ 15) (hn : 0 < n) (hxn : x < 2 ^ n.toNat) :
    CallOkC w p loose mean mg mb f [.int x tx, .int lo tl, .int hi th] (d + 1) (8 * d + 8) (led42 w.params f c' D ci ca cn qual doc pm ctv oc oi oa on vs k rest)
      fun r news' => r = .none ∧ ∃ vs', IntsAre vs' (fill ns n.toNat lo.toNat (hi - lo).toNat x) ∧ news' = led42 w.params f c' D ci ca cn qual doc pm ctv oc oi oa on vs' k rest := by
  unfold CallOkC
  intro dp un gd cn' cs a' ccd cl outer A₀ base h₀ L m s Q E B F X N T hk hC1 hC2 hd hu hret
  exact i42_baseI w p loose mean mg mb (d := d) (x := x) (lo := lo) (hi := hi) (n := n) tx tl th tn (f := f) (c' := c') (D := D) (ci := ci) (ca := ca) (cn := cn) (qual := qual) doc pm ctv (oc := oc) (oi := oi) (oa := oa) (on := on) (ws := ws) (t := t) (vs := vs) (ns := ns) k (rest := rest) H hvs hx hlo hhi hlen hmax hn hxn B F X N T hk hC1 hC2 hd hu hret
end
namespace Ci42stepI
noncomputable def Pq (w : World) (p : Program) (loose : List Str) (mean : ExcName → Option Value) (mg : Str → Option Value) (mb : Str → Option Value) (d : Nat) (x : Int) (lo : Int) (hi : Int) (n : Int) (tx : Tok) (tl : Tok) (th : Tok) (tn : Tok) (f : Addr) (c' : Addr) (D : Addr) (ci : Addr) (ca : Addr) (cn : Addr) (qual : Str) (doc : Value) (pm : Value) (ctv : Value) (oc : Obj) (oi : Obj) (oa : Obj) (on : Obj) (ws : Array Value) (t : Tok) (vs : List Value) (ns : List Int) (k : Nat) (rest : Led) (dp : Nat) (un : Nat) (gd : Option (List Code)) (cn' : Str) (cs : Scope) (a' : Addr) (ccd : Value) (cl : List (Str × Addr)) (outer : List Env) (A₀ : Around) (base : Heap) (h₀ : Heap) (L : Addr) (m : Str → Option Value) (s : Shared) (Q : Value → Shared → Prop) (E : Value → Shared → Prop) : Prop := ∀ (IH : I42 w p loose mean mg mb d) (H : Facts42 f c' D ci ca cn qual oc oi oa on ws t n tn rest) (hvs : IntsAre vs ns) (hx : 0 ≤ x) (hlo : 0 ≤ lo) (hhi : lo + 1 < hi) (hd2 : hi - lo ≤ 2 ^ (d + 1)) (hlen : hi ≤ ns.length) (hmax : (ns.length : Int) ≤ 2 ^ 15) (hn : 0 < n) (hns : n * (hi - lo) ≤ 2 ^ 26) (hxn : x < 2 ^ (n.toNat * (hi - lo).toNat)) (B : Below A₀ base outer h₀) (F : Fr h₀ L s.heap m) (X : (hd.heap_39 w.params).In h₀) (N : News h₀ L s.heap (led42 w.params f c' D ci ca cn qual doc pm ctv oc oi oa on vs k rest)) (T : Top p loose mean mg mb h₀) (hk : cs.kind = .function) (hC1 : CodeHd h₀ 41 37) (hC2 : CodeHd h₀ 48 44) (hd : dp + (d + 1 + 1) < recursionLimit) (hu : un + (8 * (d + 1) + 8) < cLine) (hret : ∀ r news' h' tk', Fr h₀ L h' m → News h₀ L h' news' → (r = .none ∧ ∃ vs', IntsAre vs' (fill ns n.toNat lo.toNat (hi - lo).toNat x) ∧ news' = led42 w.params f c' D ci ca cn qual doc pm ctv oc oi oa on vs' k rest) → Q r { s with heap := h', toks := tk' }),
    wpAny (model PySem.Challenge.pw_sr0065_01 w) (ktrTop dp un gd cn' cs L a' ccd cl outer) (call (.ref f) [.int x tx, .int lo tl, .int hi th]) Q E s
noncomputable abbrev Tq : Type := ((((((World × Program) × ((List Str) × (ExcName → Option Value))) × (((Str → Option Value) × (Str → Option Value)) × Nat)) × (((Int × Int) × Int) × ((Int × Tok) × Tok))) × ((((Tok × Tok) × (Addr × Addr)) × ((Addr × Addr) × Addr)) × (((Addr × Str) × Value) × ((Value × Value) × Obj)))) × (((((Obj × Obj) × (Obj × (Array Value))) × ((Tok × (List Value)) × (List Int))) × (((Nat × Led) × Nat) × ((Nat × (Option (List Code))) × Str))) × ((((Scope × Addr) × (Value × (List (Str × Addr)))) × (((List Env) × Around) × Heap)) × (((Heap × Addr) × (Str → Option Value)) × ((Shared × (Value → Shared → Prop)) × (Value → Shared → Prop))))))
theorem exq : ∃ t : Tq, Pq t.1.1.1.1.1.1 t.1.1.1.1.1.2 t.1.1.1.1.2.1 t.1.1.1.1.2.2 t.1.1.1.2.1.1 t.1.1.1.2.1.2 t.1.1.1.2.2 t.1.1.2.1.1.1 t.1.1.2.1.1.2 t.1.1.2.1.2 t.1.1.2.2.1.1 t.1.1.2.2.1.2 t.1.1.2.2.2 t.1.2.1.1.1.1 t.1.2.1.1.1.2 t.1.2.1.1.2.1 t.1.2.1.1.2.2 t.1.2.1.2.1.1 t.1.2.1.2.1.2 t.1.2.1.2.2 t.1.2.2.1.1.1 t.1.2.2.1.1.2 t.1.2.2.1.2 t.1.2.2.2.1.1 t.1.2.2.2.1.2 t.1.2.2.2.2 t.2.1.1.1.1.1 t.2.1.1.1.1.2 t.2.1.1.1.2.1 t.2.1.1.1.2.2 t.2.1.1.2.1.1 t.2.1.1.2.1.2 t.2.1.1.2.2 t.2.1.2.1.1.1 t.2.1.2.1.1.2 t.2.1.2.1.2 t.2.1.2.2.1.1 t.2.1.2.2.1.2 t.2.1.2.2.2 t.2.2.1.1.1.1 t.2.2.1.1.1.2 t.2.2.1.1.2.1 t.2.2.1.1.2.2 t.2.2.1.2.1.1 t.2.2.1.2.1.2 t.2.2.1.2.2 t.2.2.2.1.1.1 t.2.2.2.1.1.2 t.2.2.2.1.2 t.2.2.2.2.1.1 t.2.2.2.2.1.2 t.2.2.2.2.2 → ∀ t : Tq, Pq t.1.1.1.1.1.1 t.1.1.1.1.1.2 t.1.1.1.1.2.1 t.1.1.1.1.2.2 t.1.1.1.2.1.1 t.1.1.1.2.1.2 t.1.1.1.2.2 t.1.1.2.1.1.1 t.1.1.2.1.1.2 t.1.1.2.1.2 t.1.1.2.2.1.1 t.1.1.2.2.1.2 t.1.1.2.2.2 t.1.2.1.1.1.1 t.1.2.1.1.1.2 t.1.2.1.1.2.1 t.1.2.1.1.2.2 t.1.2.1.2.1.1 t.1.2.1.2.1.2 t.1.2.1.2.2 t.1.2.2.1.1.1 t.1.2.2.1.1.2 t.1.2.2.1.2 t.1.2.2.2.1.1 t.1.2.2.2.1.2 t.1.2.2.2.2 t.2.1.1.1.1.1 t.2.1.1.1.1.2 t.2.1.1.1.2.1 t.2.1.1.1.2.2 t.2.1.1.2.1.1 t.2.1.1.2.1.2 t.2.1.1.2.2 t.2.1.2.1.1.1 t.2.1.2.1.1.2 t.2.1.2.1.2 t.2.1.2.2.1.1 t.2.1.2.2.1.2 t.2.1.2.2.2 t.2.2.1.1.1.1 t.2.2.1.1.1.2 t.2.2.1.1.2.1 t.2.2.1.1.2.2 t.2.2.1.2.1.1 t.2.2.1.2.1.2 t.2.2.1.2.2 t.2.2.2.1.1.1 t.2.2.2.1.1.2 t.2.2.2.1.2 t.2.2.2.2.1.1 t.2.2.2.2.1.2 t.2.2.2.2.2 := dk (α := Tq) (((((((aWorld 0, default), (default, (fun _ => default))), (((fun _ => default), (fun _ => default)), default)), (((default, default), default), ((default, default), default))), ((((default, default), (default, default)), ((default, default), default)), (((default, default), default), ((default, default), default)))), (((((default, default), (default, default)), ((default, default), default)), (((default, default), default), ((default, default), default))), ((((default, default), (default, default)), ((default, ({} : Around)), default)), (((default, default), (fun _ => default)), ((({} : Shared), (fun _ _ => True)), (fun _ _ => True))))))) _
noncomputable def cq : Tq := Classical.choose exq
@[irreducible] noncomputable def w : World := cq.1.1.1.1.1.1
@[irreducible] noncomputable def p : Program := cq.1.1.1.1.1.2
@[irreducible] noncomputable def loose : List Str := cq.1.1.1.1.2.1
@[irreducible] noncomputable def mean : ExcName → Option Value := cq.1.1.1.1.2.2
@[irreducible] noncomputable def mg : Str → Option Value := cq.1.1.1.2.1.1
@[irreducible] noncomputable def mb : Str → Option Value := cq.1.1.1.2.1.2
@[irreducible] noncomputable def d : Nat := cq.1.1.1.2.2
@[irreducible] noncomputable def x : Int := cq.1.1.2.1.1.1
@[irreducible] noncomputable def lo : Int := cq.1.1.2.1.1.2
@[irreducible] noncomputable def hi : Int := cq.1.1.2.1.2
@[irreducible] noncomputable def n : Int := cq.1.1.2.2.1.1
@[irreducible] noncomputable def tx : Tok := cq.1.1.2.2.1.2
@[irreducible] noncomputable def tl : Tok := cq.1.1.2.2.2
@[irreducible] noncomputable def th : Tok := cq.1.2.1.1.1.1
@[irreducible] noncomputable def tn : Tok := cq.1.2.1.1.1.2
@[irreducible] noncomputable def f : Addr := cq.1.2.1.1.2.1
@[irreducible] noncomputable def c' : Addr := cq.1.2.1.1.2.2
@[irreducible] noncomputable def D : Addr := cq.1.2.1.2.1.1
@[irreducible] noncomputable def ci : Addr := cq.1.2.1.2.1.2
@[irreducible] noncomputable def ca : Addr := cq.1.2.1.2.2
@[irreducible] noncomputable def cn : Addr := cq.1.2.2.1.1.1
@[irreducible] noncomputable def qual : Str := cq.1.2.2.1.1.2
@[irreducible] noncomputable def doc : Value := cq.1.2.2.1.2
@[irreducible] noncomputable def pm : Value := cq.1.2.2.2.1.1
@[irreducible] noncomputable def ctv : Value := cq.1.2.2.2.1.2
@[irreducible] noncomputable def oc : Obj := cq.1.2.2.2.2
@[irreducible] noncomputable def oi : Obj := cq.2.1.1.1.1.1
@[irreducible] noncomputable def oa : Obj := cq.2.1.1.1.1.2
@[irreducible] noncomputable def on : Obj := cq.2.1.1.1.2.1
@[irreducible] noncomputable def ws : Array Value := cq.2.1.1.1.2.2
@[irreducible] noncomputable def t : Tok := cq.2.1.1.2.1.1
@[irreducible] noncomputable def vs : List Value := cq.2.1.1.2.1.2
@[irreducible] noncomputable def ns : List Int := cq.2.1.1.2.2
@[irreducible] noncomputable def k : Nat := cq.2.1.2.1.1.1
@[irreducible] noncomputable def rest : Led := cq.2.1.2.1.1.2
@[irreducible] noncomputable def dp : Nat := cq.2.1.2.1.2
@[irreducible] noncomputable def un : Nat := cq.2.1.2.2.1.1
@[irreducible] noncomputable def gd : Option (List Code) := cq.2.1.2.2.1.2
@[irreducible] noncomputable def cn' : Str := cq.2.1.2.2.2
@[irreducible] noncomputable def cs : Scope := cq.2.2.1.1.1.1
@[irreducible] noncomputable def a' : Addr := cq.2.2.1.1.1.2
@[irreducible] noncomputable def ccd : Value := cq.2.2.1.1.2.1
@[irreducible] noncomputable def cl : List (Str × Addr) := cq.2.2.1.1.2.2
@[irreducible] noncomputable def outer : List Env := cq.2.2.1.2.1.1
@[irreducible] noncomputable def A₀ : Around := cq.2.2.1.2.1.2
@[irreducible] noncomputable def base : Heap := cq.2.2.1.2.2
@[irreducible] noncomputable def h₀ : Heap := cq.2.2.2.1.1.1
@[irreducible] noncomputable def L : Addr := cq.2.2.2.1.1.2
@[irreducible] noncomputable def m : Str → Option Value := cq.2.2.2.1.2
@[irreducible] noncomputable def s : Shared := cq.2.2.2.2.1.1
@[irreducible] noncomputable def Q : Value → Shared → Prop := cq.2.2.2.2.1.2
@[irreducible] noncomputable def E : Value → Shared → Prop := cq.2.2.2.2.2
noncomputable def cutq : {G : Prop // (∀ (IH : I42 w p loose mean mg mb d) (H : Facts42 f c' D ci ca cn qual oc oi oa on ws t n tn rest) (hvs : IntsAre vs ns) (hx : 0 ≤ x) (hlo : 0 ≤ lo) (hhi : lo + 1 < hi) (hd2 : hi - lo ≤ 2 ^ (d + 1)) (hlen : hi ≤ ns.length) (hmax : (ns.length : Int) ≤ 2 ^ 15) (hn : 0 < n) (hns : n * (hi - lo) ≤ 2 ^ 26) (hxn : x < 2 ^ (n.toNat * (hi - lo).toNat)) (B : Below A₀ base outer h₀) (F : Fr h₀ L s.heap m) (X : (hd.heap_39 w.params).In h₀) (N : News h₀ L s.heap (led42 w.params f c' D ci ca cn qual doc pm ctv oc oi oa on vs k rest)) (T : Top p loose mean mg mb h₀) (hk : cs.kind = .function) (hC1 : CodeHd h₀ 41 37) (hC2 : CodeHd h₀ 48 44) (hd : dp + (d + 1 + 1) < recursionLimit) (hu : un + (8 * (d + 1) + 8) < cLine) (hret : ∀ r news' h' tk', Fr h₀ L h' m → News h₀ L h' news' → (r = .none ∧ ∃ vs', IntsAre vs' (fill ns n.toNat lo.toNat (hi - lo).toNat x) ∧ news' = led42 w.params f c' D ci ca cn qual doc pm ctv oc oi oa on vs' k rest) → Q r { s with heap := h', toks := tk' }), G) → Pq w p loose mean mg mb d x lo hi n tx tl th tn f c' D ci ca cn qual doc pm ctv oc oi oa on ws t vs ns k rest dp un gd cn' cs a' ccd cl outer A₀ base h₀ L m s Q E} := ⟨_, fun h9z => by
  unfold Pq
  intro IH H hvs hx hlo hhi hd2 hlen hmax hn hns hxn B F X N T hk hC1 hC2 hd hu hret
  have h9y := fun (_ : Unit) => h9z IH H hvs hx hlo hhi hd2 hlen hmax hn hns hxn B F X N T hk hC1 hC2 hd hu hret
  have H' := H
  obtain ⟨f1, f2, f3, f4, f5, f6, f7⟩ := H'
  dsimp only [led42, fn42, in42, obj42, stmtsOf, defBody, defParams, defScope, sParts, List.getElem?_cons_succ, List.getElem?_cons_zero, Option.getD_some] at N hret
  obtain ⟨hm1, hm2, hm3, hm4⟩ := mid_facts hhi hd2
  generalize hM : (lo + hi) / 2 = M at hm1 hm2 hm3 hm4
  obtain ⟨e1, e2, e3, e4, e5, e6, e7⟩ := half_dig hx hm1 hm2 hn hns hxn
  have hmul := mulOk_small (x := M - lo) (y := n) (by omega) (by omega)
  have hpS := pow_pos' (n.toNat * (M - lo).toNat)
  have hm0 : 0 ≤ x % 2 ^ (n.toNat * (M - lo).toNat) := Int.emod_nonneg _ (by omega)
  have hm1' : x % 2 ^ (n.toNat * (M - lo).toNat) < 2 ^ (n.toNat * (M - lo).toNat) := Int.emod_lt_of_pos _ hpS
  have b0 := Int.le_trans hlo (Int.le_of_lt hm1)
  have bM := Int.le_of_lt (Int.lt_of_lt_of_le hm2 hlen)
  have e4' := pw27 e4
  have e5' := pw26 e5
  have e6' := pw26 e6
  have hmax' := pw15 hmax
  have hfl := fill_len (ns := ns) (n := n.toNat) (lo := lo.toNat) (c := (M - lo).toNat) (x := x % 2 ^ (n.toNat * (M - lo).toNat)) (by omega)
  refine wpAny_call ?_
  (k_dflt (refine' code_nest ?k1u2 ?k2u2 ?k3u2 ?k4u2 ?k5u2 ?kAu2 ?kFu2 ?kKu2 ?k6u2 ?k7u2 ?k8u2 ?k9u2 ?kBu2 ?_ ?c2u2 ?c3u2 ?c4u2 ?c5u2; (case kAu2 => exact rfl); (case kFu2 => exact rfl); (case kKu2 => assumption); (case k1u2 | k2u2 | k3u2 | k4u2 | k5u2 => k_asm); (case k6u2 => k_mem); (case k7u2 => exact codeRec_news (by k_asm) (by k_mem) (by assumption) (by assumption)); (case k8u2 => ktr_room); (case k9u2 => exact BindsTo.of_eq rfl); (case c5u2 => decide); (case kBu2 => exact locs rfl); (case c2u2 => exact rfl); (case c3u2 => exact rfl); (case c4u2 => exact rfl); k_whole; intro gz Lz hz FGz Fz Nz Bz Xz Tz; (have Cz := CodeHd.keeps (c := 41) (P := 37) (by assumption) (Fr.keep FGz)); (have Dz := CodeHd.keeps (c := 48) (P := 44) (by assumption) (Fr.keep FGz)); (try dsimp only); (try k_fold)))
  revert Dz
  revert Cz
  revert Tz
  revert Xz
  revert Bz
  revert Nz
  revert Fz
  revert FGz
  revert hz
  revert Lz
  revert gz
  exact h9y ()⟩
noncomputable def pcq : {Pc : Heap → Addr → Heap → Prop // (∀ a b c, Pc a b c) → cutq.1} := ⟨_, fun h => h⟩
theorem exc : ∃ t : ((Heap × Addr) × Heap), pcq.1 t.1.1 t.1.2 t.2 → ∀ t : ((Heap × Addr) × Heap), pcq.1 t.1.1 t.1.2 t.2 := dk (α := ((Heap × Addr) × Heap)) ((default, default), default) _
noncomputable def ccq : ((Heap × Addr) × Heap) := Classical.choose exc
@[irreducible] noncomputable def gz : Heap := ccq.1.1
@[irreducible] noncomputable def Lz : Addr := ccq.1.2
@[irreducible] noncomputable def hz : Heap := ccq.2
theorem core2 (IH : I42 w p loose mean mg mb d) (H : Facts42 f c' D ci ca cn qual oc oi oa on ws t n tn rest) (hvs : IntsAre vs ns) (hx : 0 ≤ x) (hlo : 0 ≤ lo) (hhi : lo + 1 < hi) (hd2 : hi - lo ≤ 2 ^ (d + 1)) (hlen : hi ≤ ns.length) (hmax : (ns.length : Int) ≤ 2 ^ 15) (hn : 0 < n) (hns : n * (hi - lo) ≤ 2 ^ 26) (hxn : x < 2 ^ (n.toNat * (hi - lo).toNat)) (B : Below A₀ base outer h₀) (F : Fr h₀ L s.heap m) (X : (hd.heap_39 w.params).In h₀) (N : News h₀ L s.heap (led42 w.params f c' D ci ca cn qual doc pm ctv oc oi oa on vs k rest)) (T : Top p loose mean mg mb h₀) (hk : cs.kind = .function) (hC1 : CodeHd h₀ 41 37) (hC2 : CodeHd h₀ 48 44) (hd : dp + (d + 1 + 1) < recursionLimit) (hu : un + (8 * (d + 1) + 8) < cLine) (hret : ∀ r news' h' tk', Fr h₀ L h' m → News h₀ L h' news' → (r = .none ∧ ∃ vs', IntsAre vs' (fill ns n.toNat lo.toNat (hi - lo).toNat x) ∧ news' = led42 w.params f c' D ci ca cn qual doc pm ctv oc oi oa on vs' k rest) → Q r { s with heap := h', toks := tk' }) : pcq.1 gz Lz hz := by
  have H' := H
  obtain ⟨f1, f2, f3, f4, f5, f6, f7⟩ := H'
  dsimp only [led42, fn42, in42, obj42, stmtsOf, defBody, defParams, defScope, sParts, List.getElem?_cons_succ, List.getElem?_cons_zero, Option.getD_some] at N hret
  obtain ⟨hm1, hm2, hm3, hm4⟩ := mid_facts hhi hd2
  generalize hM : (lo + hi) / 2 = M at hm1 hm2 hm3 hm4
  obtain ⟨e1, e2, e3, e4, e5, e6, e7⟩ := half_dig hx hm1 hm2 hn hns hxn
  have hmul := mulOk_small (x := M - lo) (y := n) (by omega) (by omega)
  have hpS := pow_pos' (n.toNat * (M - lo).toNat)
  have hm0 : 0 ≤ x % 2 ^ (n.toNat * (M - lo).toNat) := Int.emod_nonneg _ (by omega)
  have hm1' : x % 2 ^ (n.toNat * (M - lo).toNat) < 2 ^ (n.toNat * (M - lo).toNat) := Int.emod_lt_of_pos _ hpS
  have b0 := Int.le_trans hlo (Int.le_of_lt hm1)
  have bM := Int.le_of_lt (Int.lt_of_lt_of_le hm2 hlen)
  have e4' := pw27 e4
  have e5' := pw26 e5
  have e6' := pw26 e6
  have hmax' := pw15 hmax
  have hfl := fill_len (ns := ns) (n := n.toNat) (lo := lo.toNat) (c := (M - lo).toNat) (x := x % 2 ^ (n.toNat * (M - lo).toNat)) (by omega)
  intro FGz Fz Nz Bz Xz Tz Cz Dz
  walk_at "STEPS"
  all_goals (try ((k_here; (with_reducible rename I42 _ _ _ _ _ _ _ => h3q13); k_dflt (refine' CallOkC.use (h3q13 _ _ _ _ _ _ _ _ _ _ _ _ _ _ _ _ _ _ _ _ _ _ _ _ _ _ _ _ ?hfq13 ?hvq13 ?preq13) ?k1q13 ?k2q13 ?k3q13 ?k4q13 ?k4sq13 ?k5q13 ?k6q13 ?kc1q13 ?kc2q13 ?k7q13 ?k8q13 ?_); (((((case k1q13 | k2q13 | k3q13 | k4q13 | k5q13 => k_asm); (case k6q13 => first | exact rfl | assumption); (case k7q13 => ktr_room); (case k8q13 => ktr_units))); (case kc1q13 | kc2q13 => assumption))); (case k4sq13 => (intro pq13 hpq13; exact hpq13)); (case hfq13 | hvq13 => assumption); rotate_left; (intro r9q13 n9q13 h9q13 tk9q13 F9q13 N9q13 hO9q13; obtain ⟨e9q13, vs9q13, hI9q13, e99q13⟩ := hO9q13; subst e9q13 e99q13; (try dsimp only); (try k_fold)))))
  all_goals (try walk_at "STEPS")
  all_goals (try ((k_here; (with_reducible rename I42 _ _ _ _ _ _ _ => h3q14); k_dflt (refine' CallOkC.use (h3q14 _ _ _ _ _ _ _ _ _ _ _ _ _ _ _ _ _ _ _ _ _ _ _ _ _ _ _ _ ?hfq14 ?hvq14 ?preq14) ?k1q14 ?k2q14 ?k3q14 ?k4q14 ?k4sq14 ?k5q14 ?k6q14 ?kc1q14 ?kc2q14 ?k7q14 ?k8q14 ?_); (((((case k1q14 | k2q14 | k3q14 | k4q14 | k5q14 => k_asm); (case k6q14 => first | exact rfl | assumption); (case k7q14 => ktr_room); (case k8q14 => ktr_units))); (case kc1q14 | kc2q14 => assumption))); (case k4sq14 => (intro pq14 hpq14; exact hpq14)); (case hfq14 | hvq14 => assumption); rotate_left; (intro r9q14 n9q14 h9q14 tk9q14 F9q14 N9q14 hO9q14; obtain ⟨e9q14, vs9q14, hI9q14, e99q14⟩ := hO9q14; subst e9q14 e99q14; (try dsimp only); (try k_fold)))))
  all_goals (try walk_at "STEPS")
  all_goals (first | (with_reducible show Pre _) | refine hret _ _ _ _ (by k_asm) (by k_asm) ⟨rfl, _, ?_, rfl⟩)
  all_goals (try simp only [Int.reduceToNat, Int.reducePow, hM, e1, bitXor_hi hx, hfl])
  all_goals (try unfold Pre)
  all_goals (first | exact hmul | exact e7 | exact e4' | exact ⟨e2, b0, hm2, hm4, hlen, hmax', hn, e6', e3⟩ | exact ⟨hm0, hlo, hm1, hm3, bM, hmax', hn, e5', hm1'⟩ | omega | (refine ⟨?_, ?_, ?_, ?_, ?_, ?_, ?_, ?_, ?_⟩ <;> first | assumption | omega) | skip)
  have hf := fill_two (ns := ns) (n := n.toNat) (lo := lo.toNat) (a := (M - lo).toNat) (b := (hi - M).toNat) hx (by omega)
  rw [show lo.toNat + (M - lo).toNat = M.toNat by omega, show (M - lo).toNat + (hi - M).toNat = (hi - lo).toNat by omega] at hf
  rw [← hf, ← e1, ← bitXor_hi hx, e1]
  simp only [Int.reduceToNat, Int.reducePow, hM, e1] at *
  assumption
theorem coreq : Pq w p loose mean mg mb d x lo hi n tx tl th tn f c' D ci ca cn qual doc pm ctv oc oi oa on ws t vs ns k rest dp un gd cn' cs a' ccd cl outer A₀ base h₀ L m s Q E := by
  with_unfolding_all exact cutq.2 fun IH H hvs hx hlo hhi hd2 hlen hmax hn hns hxn B F X N T hk hC1 hC2 hd hu hret => pcq.2 fun a b c => Classical.choose_spec exc (core2 IH H hvs hx hlo hhi hd2 hlen hmax hn hns hxn B F X N T hk hC1 hC2 hd hu hret) ((a, b), c)
theorem allq (w : World) (p : Program) (loose : List Str) (mean : ExcName → Option Value) (mg : Str → Option Value) (mb : Str → Option Value) (d : Nat) (x : Int) (lo : Int) (hi : Int) (n : Int) (tx : Tok) (tl : Tok) (th : Tok) (tn : Tok) (f : Addr) (c' : Addr) (D : Addr) (ci : Addr) (ca : Addr) (cn : Addr) (qual : Str) (doc : Value) (pm : Value) (ctv : Value) (oc : Obj) (oi : Obj) (oa : Obj) (on : Obj) (ws : Array Value) (t : Tok) (vs : List Value) (ns : List Int) (k : Nat) (rest : Led) (dp : Nat) (un : Nat) (gd : Option (List Code)) (cn' : Str) (cs : Scope) (a' : Addr) (ccd : Value) (cl : List (Str × Addr)) (outer : List Env) (A₀ : Around) (base : Heap) (h₀ : Heap) (L : Addr) (m : Str → Option Value) (s : Shared) (Q : Value → Shared → Prop) (E : Value → Shared → Prop) : Pq w p loose mean mg mb d x lo hi n tx tl th tn f c' D ci ca cn qual doc pm ctv oc oi oa on ws t vs ns k rest dp un gd cn' cs a' ccd cl outer A₀ base h₀ L m s Q E := by
  with_unfolding_all exact Classical.choose_spec exq coreq ((((((w, p), (loose, mean)), ((mg, mb), d)), (((x, lo), hi), ((n, tx), tl))), ((((th, tn), (f, c')), ((D, ci), ca)), (((cn, qual), doc), ((pm, ctv), oc)))), (((((oi, oa), (on, ws)), ((t, vs), ns)), (((k, rest), dp), ((un, gd), cn'))), ((((cs, a'), (ccd, cl)), ((outer, A₀), base)), (((h₀, L), m), ((s, Q), E)))))
end Ci42stepI
section
variable (w : World) (p : Program) (loose : List Str) (mean : ExcName → Option Value) (mg mb : Str → Option Value)
theorem i42_stepI {d : Nat} (IH : I42 w p loose mean mg mb d) {x lo hi n : Int} (tx tl th tn : Tok) {f c' D ci ca cn : Addr} {qual : Str} (doc pm ctv : Value) {oc oi oa on : Obj} {ws : Array Value} {t : Tok} {vs : List Value} {ns : List Int} (k : Nat) {rest : Led}
    (H : Facts42 f c' D ci ca cn qual oc oi oa on ws t n tn rest) (hvs : IntsAre vs ns) (hx : 0 ≤ x) (hlo : 0 ≤ lo) (hhi : lo + 1 < hi) (hd2 : hi - lo ≤ 2 ^ (d + 1)) (hlen : hi ≤ ns.length) (hmax : (ns.length : Int) ≤ 2 ^ 15) (hn : 0 < n) (hns : n * (hi - lo) ≤ 2 ^ 26) (hxn : x < 2 ^ (n.toNat * (hi - lo).toNat)) {dp : Nat} {un : Nat} {gd : Option (List Code)} {cn' : Str} {cs : Scope} {a' : Addr} {ccd : Value} {cl : List (Str × Addr)} {outer : List Env} {A₀ : Around} {base : Heap} {h₀ : Heap} {L : Addr} {m : Str → Option Value} {s : Shared} {Q : Value → Shared → Prop} {E : Value → Shared → Prop}
    (B : Below A₀ base outer h₀) (F : Fr h₀ L s.heap m) (X : (hd.heap_39 w.params).In h₀) (N : News h₀ L s.heap (led42 w.params f c' D ci ca cn qual doc pm ctv oc oi oa on vs k rest)) (T : Top p loose mean mg mb h₀) (hk : cs.kind = .function) (hC1 : CodeHd h₀ 41 37) (hC2 : CodeHd h₀ 48 44) (hd : dp + (d + 1 + 1) < recursionLimit) (hu : un + (8 * (d + 1) + 8) < cLine) (hret : ∀ r news' h' tk', Fr h₀ L h' m → News h₀ L h' news' → (r = .none ∧ ∃ vs', IntsAre vs' (fill ns n.toNat lo.toNat (hi - lo).toNat x) ∧ news' = led42 w.params f c' D ci ca cn qual doc pm ctv oc oi oa on vs' k rest) → Q r { s with heap := h', toks := tk' }) :
    wpAny (model PySem.Challenge.pw_sr0065_01 w) (ktrTop dp un gd cn' cs L a' ccd cl outer) (call (.ref f) [.int x tx, .int lo tl, .int hi th]) Q E s :=
  Ci42stepI.allq w p loose mean mg mb d x lo hi n tx tl th tn f c' D ci ca cn qual doc pm ctv oc oi oa on ws t vs ns k rest dp un gd cn' cs a' ccd cl outer A₀ base h₀ L m s Q E IH H hvs hx hlo hhi hd2 hlen hmax hn hns hxn B F X N T hk hC1 hC2 hd hu hret
theorem i42_step {d : Nat} (IH : I42 w p loose mean mg mb d) {x lo hi n : Int} (tx tl th tn : Tok) {f c' D ci ca cn : Addr} {qual : Str} (doc pm ctv : Value) {oc oi oa on : Obj} {ws : Array Value} {t : Tok} {vs : List Value} {ns : List Int} (k : Nat) {rest : Led}
    (H : Facts42 f c' D ci ca cn qual oc oi oa on ws t n tn rest) (hvs : IntsAre vs ns) (hx : 0 ≤ x) (hlo : 0 ≤ lo) (hhi : lo + 1 < hi) (hd2 : hi - lo ≤ 2 ^ (d + 1)) (hlen : hi ≤ ns.length) (hmax : (ns.length : Int) ≤ 2 ^ 15) (hn : 0 < n) (hns : n * (hi - lo) ≤ 2 ^ 26) (hxn : x < 2 ^ (n.toNat * (hi - lo).toNat)) :
    CallOkC w p loose mean mg mb f [.int x tx, .int lo tl, .int hi th] (d + 1 + 1) (8 * (d + 1) + 8) (led42 w.params f c' D ci ca cn qual doc pm ctv oc oi oa on vs k rest)
      fun r news' => r = .none ∧ ∃ vs', IntsAre vs' (fill ns n.toNat lo.toNat (hi - lo).toNat x) ∧ news' = led42 w.params f c' D ci ca cn qual doc pm ctv oc oi oa on vs' k rest := by
  unfold CallOkC
  intro dp un gd cn' cs a' ccd cl outer A₀ base h₀ L m s Q E B F X N T hk hC1 hC2 hd hu hret
  exact i42_stepI w p loose mean mg mb (d := d) IH (x := x) (lo := lo) (hi := hi) (n := n) tx tl th tn (f := f) (c' := c') (D := D) (ci := ci) (ca := ca) (cn := cn) (qual := qual) doc pm ctv (oc := oc) (oi := oi) (oa := oa) (on := on) (ws := ws) (t := t) (vs := vs) (ns := ns) k (rest := rest) H hvs hx hlo hhi hd2 hlen hmax hn hns hxn B F X N T hk hC1 hC2 hd hu hret
theorem i42_all : ∀ d, I42 w p loose mean mg mb d
  | 0 => by
    unfold I42
    intro x lo hi n tx tl th tn f c' D ci ca cn qual doc pm ctv oc oi oa on ws t vs ns k rest H hvs hO0
    obtain ⟨h1, h2, h3, h4, h5, h6, h7, h8, h9⟩ := hO0
    exact i42_base w p loose mean mg mb tx tl th tn doc pm ctv k H hvs h1 h2 (by omega) h5 h6 h7 (by rw [show (hi - lo).toNat = 1 by omega, Nat.mul_one] at h9; exact h9)
  | d + 1 => by
    have IH := i42_all d
    unfold I42
    intro x lo hi n tx tl th tn f c' D ci ca cn qual doc pm ctv oc oi oa on ws t vs ns k rest H hvs hO0
    obtain ⟨h1, h2, h3, h4, h5, h6, h7, h8, h9⟩ := hO0
    by_cases hb : lo + 1 = hi
    · exact i42_base w p loose mean mg mb tx tl th tn doc pm ctv k H hvs h1 h2 hb h5 h6 h7 (by rw [show (hi - lo).toNat = 1 by omega, Nat.mul_one] at h9; exact h9)
    · exact i42_step w p loose mean mg mb IH tx tl th tn doc pm ctv k H hvs h1 h2 (by omega) h4 h5 h6 h7 h8 h9
end
-- C6
theorem fresh_C6 : True := by
  w_top off
  exact trivial
noncomputable def RestIs (_rest : Led) : Prop := True
noncomputable def qual42 : Str := qualnameIn (envOfC (Str.ofString "_int2digits") default 0 42 (.ref 41)) (Str.ofString "inner") (Str.ofString "inner")
/-- the state of the table of inner code of the def whose table lies at P -/
inductive TabSt (P : Addr) (line col : Nat) (qual : Str) : Led → Led → Prop
  | fresh {rest : Led} : (∀ q ∈ rest, q.1 ≠ P) → TabSt P line col qual [(P, tabObj #[])] rest
  | made {rest : Led} {c : Addr} {oc : Obj} {ws : Array Value} {t : Tok} : (∀ q ∈ rest, q.1 ≠ P) → (∀ q ∈ rest, q.1 ≠ c) → @Ne Nat c P → oc.data = .fields ws → ws[1]? = some (.str qual t) →
      TabSt P line col qual [(P, tabObj #[rawInt line, rawInt col, .ref c]), (c, oc)] rest
section
variable {w : World} {p : Program} {loose : List Str} {mean : ExcName → Option Value} {mg mb : Str → Option Value}
theorem use42 {d : Nat} (I : I42 w p loose mean mg mb d) {x lo hi n : Int} {tx tl th tn : Tok} {f c' D ci ca cn : Addr} {qual : Str} {doc pm ctv : Value} {oc oi oa on : Obj} {ws : Array Value} {t : Tok} {vs : List Value} {ns : List Int} {k : Nat} {rest news₀ : Led}
    {dp un : Nat} {gd : Option (List Code)} {cn' : Str} {cs : Scope} {a : Addr} {ccd : Value} {cl : List (Str × Addr)} {outer : List Env} {A₀ : Around} {base h₀ : Heap} {L : Addr} {m : Str → Option Value} {s : Shared} {Q E : Value → Shared → Prop} {ot : Obj}
    (B : Below A₀ base outer h₀) (F : Fr h₀ L s.heap m) (X : (hd.heap_39 w.params).In h₀) (N : News h₀ L s.heap news₀) (T : Top p loose mean mg mb h₀) (hk : cs.kind = .function) (hC1 : CodeHd h₀ 41 37) (hC2 : CodeHd h₀ 48 44)
    (h1 : dp + (d + 1) < recursionLimit) (h2 : un + (8 * d + 8) < cLine) (_hR : RestIs rest)
    (mf : (f, fn42 w.params qual cn ci ca doc pm c' ctv) ∈ news₀) (mca : (ca, oa) ∈ news₀) (da : oa.data = .cell (some (.ref D))) (mD : (D, listOf vs.toArray k) ∈ news₀) (mci : (ci, oi) ∈ news₀) (mcn : (cn, on) ∈ news₀) (mc : (c', oc) ∈ news₀)
    (di : oi.data = .cell (some (.ref f))) (dn : on.data = .cell (some (.int n tn))) (dc : oc.data = .fields ws) (dq : ws[1]? = some (.str qual t)) (mt : (37, ot) ∈ news₀) (hrest : ∀ q ∈ rest, q ∈ news₀) (hi' : IntsAre vs ns)
    (ne : @Ne Nat f D ∧ @Ne Nat c' D ∧ @Ne Nat ci D ∧ @Ne Nat ca D ∧ @Ne Nat cn D ∧ @Ne Nat 37 D) (nr : ∀ q ∈ rest, q.1 ≠ D)
    (pre : Pre (0 ≤ x ∧ 0 ≤ lo ∧ lo < hi ∧ hi - lo ≤ 2 ^ d ∧ hi ≤ ns.length ∧ (ns.length : Int) ≤ 2 ^ 15 ∧ 0 < n ∧ n * (hi - lo) ≤ 2 ^ 26 ∧ x < 2 ^ (n.toNat * (hi - lo).toNat)))
    (ret : ∀ vs' h' tk', Fr h₀ L h' m → News h₀ L h' (led42 w.params f c' D ci ca cn qual doc pm ctv oc oi oa on vs' k ((37, ot) :: rest)) → IntsAre vs' (fill ns n.toNat lo.toNat (hi - lo).toNat x) → Q .none { s with heap := h', toks := tk' }) :
    wpAny (model PySem.Challenge.pw_sr0065_01 w) (ktrTop dp un gd cn' cs L a ccd cl outer) (call (.ref f) [.int x tx, .int lo tl, .int hi th]) Q E s := by
  refine CallOkC.use (I x lo hi n tx tl th tn f c' D ci ca cn qual doc pm ctv oc oi oa on ws t vs ns k ((37, ot) :: rest) ⟨dc, dq, di, da, dn, ⟨ne.1, ne.2.1, ne.2.2.1, ne.2.2.2.1, ne.2.2.2.2.1⟩, List.forall_mem_cons.mpr ⟨ne.2.2.2.2.2, nr⟩⟩ hi' pre) B F X N ?_ T hk hC1 hC2 h1 h2 fun r news' h' tk' F' N' hO => ?_
  · exact List.forall_mem_cons.mpr ⟨mf, List.forall_mem_cons.mpr ⟨mc, List.forall_mem_cons.mpr ⟨mD, List.forall_mem_cons.mpr ⟨mci, List.forall_mem_cons.mpr ⟨mca, List.forall_mem_cons.mpr ⟨mcn, List.forall_mem_cons.mpr ⟨mt, hrest⟩⟩⟩⟩⟩⟩⟩
  · obtain ⟨rfl, vs', hI, rfl⟩ := hO
    exact ret vs' h' tk' F' N' hI
end
/-- the answer of _int2digits: a new list of the digits -/
noncomputable def Out42 (rest : Led) (n c : Nat) (a : Int) (v : Value) (news' : Led) : Prop :=
  ∃ (D : Addr) (vs : List Value) (T' : Led), v = .ref D ∧ IntsAre vs (dig n c a) ∧ news' = (D, listOf vs.toArray 0) :: (T' ++ rest) ∧ TabSt 37 35 4 qual42 T' ((D, listOf vs.toArray 0) :: rest) ∧ AllLt D rest
theorem pos_ne {a : Int} (h : 0 ≤ a) (h0 : ¬ a = 0) : 0 < a := by omega
theorem ret42 {h₀ h' : Heap} {L D c' : Addr} {m : Str → Option Value} {rest news' : Led} {s : Shared} {Q : Value → Shared → Prop} {n c : Nat} {a : Int} {vs : List Value} {oc : Obj} {ws : Array Value} {t : Tok} {tk' : Nat}
    (hret : ∀ v news' h' tk', Fr h₀ L h' m → News h₀ L h' news' → Out42 rest n c a v news' → Q v { s with heap := h', toks := tk' })
    (F : Fr h₀ L h' m) (N : News h₀ L h' news') (mD : (D, listOf vs.toArray 0) ∈ news') (mt : (37, tabObj #[rawInt 35, rawInt 4, .ref c']) ∈ news') (mc : (c', oc) ∈ news') (hr : ∀ q ∈ rest, q ∈ news')
    (dc : oc.data = .fields ws) (dq : ws[1]? = some (.str qual42 t)) (ht : ∀ q ∈ rest, q.1 ≠ 37) (hc : ∀ q ∈ rest, q.1 ≠ c') (ne : @Ne Nat D 37 ∧ @Ne Nat D c' ∧ @Ne Nat c' 37) (lt : AllLt D rest) (hi : IntsAre vs (dig n c a)) :
    Q (.ref D) { s with heap := h', toks := tk' } := by
  refine hret _ _ h' tk' F ?_ ⟨D, vs, [(37, tabObj #[rawInt 35, rawInt 4, .ref c']), (c', oc)], rfl, hi, rfl, .made (List.forall_mem_cons.mpr ⟨ne.1, ht⟩) (List.forall_mem_cons.mpr ⟨ne.2.1, hc⟩) ne.2.2 dc dq, lt⟩
  exact fun q hq => N q ((List.forall_mem_cons (p := fun q => q ∈ news')).mpr ⟨mD, (List.forall_mem_cons (p := fun q => q ∈ news')).mpr ⟨mt, (List.forall_mem_cons (p := fun q => q ∈ news')).mpr ⟨mc, hr⟩⟩⟩ q hq)
theorem ints_z {vs : List Value} {k k' n : Nat} {a : Int} (h : IntsAre vs (List.replicate k [0]).flatten) (hk : k = 0) (hk' : k' = 0) : IntsAre vs (dig n k' a) := by
  subst hk; subst hk'; exact h
theorem len_zeros (k : Nat) : (List.replicate k [(0 : Int)]).flatten.length = k := by
  induction k with
  | zero => rfl
  | succ k ih => rw [List.replicate_succ, List.flatten_cons, List.length_append, ih]; simp; omega
theorem fill_zeros {n k : Nat} {x : Int} : fill (List.replicate k [(0 : Int)]).flatten n 0 k x = dig n k x := by
  have := fill_all (ns := (List.replicate k [(0 : Int)]).flatten) (n := n) (x := x)
  rw [len_zeros] at this
  exact this
theorem lt_ne {x : Nat} {rest : Led} (h : AllLt x rest) : ∀ q ∈ rest, q.1 ≠ x := tbn_neAll h
local macro_rules | `(tactic| walk_at "RET42") => `(tactic| (k_dflt (refine' ret42 ?hret ?k1 ?k2 ?mD ?mt ?mc ?hr ?dc ?dq ?ht ?hc ?ne ?lt ?hi); (case hret => assumption); (case k1 | k2 => k_asm); (case mt | mc => k_mem); (case hr => walk_at "SUB"); (case mD => k_mem); (case dc | dq | ht => assumption); (case lt => walk_at "LT"); (case hc => first | assumption | exact lt_ne (by walk_at "LT")); (case ne => (refine ⟨?_, ?_, ?_⟩ <;> k_ne))))
section
variable (w : World) (p : Program) (loose : List Str) (mean : ExcName → Option Value) (mg mb : Str → Option Value)
end
namespace Ci2dfreshI
noncomputable def Pq (w : World) (p : Program) (loose : List Str) (mean : ExcName → Option Value) (mg : Str → Option Value) (mb : Str → Option Value) (rest : Led) (a : Int) (n : Int) (ta : Tok) (tn : Tok) (dp : Nat) (un : Nat) (gd : Option (List Code)) (cn : Str) (cs : Scope) (a' : Addr) (ccd : Value) (cl : List (Str × Addr)) (outer : List Env) (A₀ : Around) (base : Heap) (h₀ : Heap) (L : Addr) (m : Str → Option Value) (s : Shared) (Q : Value → Shared → Prop) (E : Value → Shared → Prop) : Prop := ∀ (hlt : ∀ q ∈ rest, q.1 ≠ 37) (ha : 0 ≤ a) (hn : 0 < n) (hn2 : n ≤ 2 ^ 22) (hb : Builtin.Int.intBits a ≤ 2 ^ 22) (hc : cnt a n ≤ 2 ^ 15) (B : Below A₀ base outer h₀) (F : Fr h₀ L s.heap m) (X : (hd.heap_39 w.params).In h₀) (N : News h₀ L s.heap ((37, tabObj #[]) :: rest)) (T : Top p loose mean mg mb h₀) (hk : cs.kind = .function) (hC1 : CodeHd h₀ 41 37) (hC2 : CodeHd h₀ 48 44) (hd : dp + 18 < recursionLimit) (hu : un + 200 < cLine) (hret : ∀ r news' h' tk', Fr h₀ L h' m → News h₀ L h' news' → (Out42 rest n.toNat (cnt a n).toNat a) r news' → Q r { s with heap := h', toks := tk' }),
    wpAny (model PySem.Challenge.pw_sr0065_01 w) (ktrTop dp un gd cn cs L a' ccd cl outer) (call (.ref 42) [.int a ta, .int n tn]) Q E s
noncomputable abbrev Tq : Type := (((((World × Program) × ((List Str) × (ExcName → Option Value))) × (((Str → Option Value) × (Str → Option Value)) × Led)) × (((Int × Int) × (Tok × Tok)) × ((Nat × Nat) × (Option (List Code))))) × ((((Str × Scope) × (Addr × Value)) × (((List (Str × Addr)) × (List Env)) × Around)) × (((Heap × Heap) × (Addr × (Str → Option Value))) × ((Shared × (Value → Shared → Prop)) × (Value → Shared → Prop)))))
theorem exq : ∃ t : Tq, Pq t.1.1.1.1.1 t.1.1.1.1.2 t.1.1.1.2.1 t.1.1.1.2.2 t.1.1.2.1.1 t.1.1.2.1.2 t.1.1.2.2 t.1.2.1.1.1 t.1.2.1.1.2 t.1.2.1.2.1 t.1.2.1.2.2 t.1.2.2.1.1 t.1.2.2.1.2 t.1.2.2.2 t.2.1.1.1.1 t.2.1.1.1.2 t.2.1.1.2.1 t.2.1.1.2.2 t.2.1.2.1.1 t.2.1.2.1.2 t.2.1.2.2 t.2.2.1.1.1 t.2.2.1.1.2 t.2.2.1.2.1 t.2.2.1.2.2 t.2.2.2.1.1 t.2.2.2.1.2 t.2.2.2.2 → ∀ t : Tq, Pq t.1.1.1.1.1 t.1.1.1.1.2 t.1.1.1.2.1 t.1.1.1.2.2 t.1.1.2.1.1 t.1.1.2.1.2 t.1.1.2.2 t.1.2.1.1.1 t.1.2.1.1.2 t.1.2.1.2.1 t.1.2.1.2.2 t.1.2.2.1.1 t.1.2.2.1.2 t.1.2.2.2 t.2.1.1.1.1 t.2.1.1.1.2 t.2.1.1.2.1 t.2.1.1.2.2 t.2.1.2.1.1 t.2.1.2.1.2 t.2.1.2.2 t.2.2.1.1.1 t.2.2.1.1.2 t.2.2.1.2.1 t.2.2.1.2.2 t.2.2.2.1.1 t.2.2.2.1.2 t.2.2.2.2 := dk (α := Tq) ((((((aWorld 0, default), (default, (fun _ => default))), (((fun _ => default), (fun _ => default)), default)), (((default, default), (default, default)), ((default, default), default))), ((((default, default), (default, default)), ((default, default), ({} : Around))), (((default, default), (default, (fun _ => default))), ((({} : Shared), (fun _ _ => True)), (fun _ _ => True)))))) _
noncomputable def cq : Tq := Classical.choose exq
@[irreducible] noncomputable def w : World := cq.1.1.1.1.1
@[irreducible] noncomputable def p : Program := cq.1.1.1.1.2
@[irreducible] noncomputable def loose : List Str := cq.1.1.1.2.1
@[irreducible] noncomputable def mean : ExcName → Option Value := cq.1.1.1.2.2
@[irreducible] noncomputable def mg : Str → Option Value := cq.1.1.2.1.1
@[irreducible] noncomputable def mb : Str → Option Value := cq.1.1.2.1.2
@[irreducible] noncomputable def rest : Led := cq.1.1.2.2
@[irreducible] noncomputable def a : Int := cq.1.2.1.1.1
@[irreducible] noncomputable def n : Int := cq.1.2.1.1.2
@[irreducible] noncomputable def ta : Tok := cq.1.2.1.2.1
@[irreducible] noncomputable def tn : Tok := cq.1.2.1.2.2
@[irreducible] noncomputable def dp : Nat := cq.1.2.2.1.1
@[irreducible] noncomputable def un : Nat := cq.1.2.2.1.2
@[irreducible] noncomputable def gd : Option (List Code) := cq.1.2.2.2
@[irreducible] noncomputable def cn : Str := cq.2.1.1.1.1
@[irreducible] noncomputable def cs : Scope := cq.2.1.1.1.2
@[irreducible] noncomputable def a' : Addr := cq.2.1.1.2.1
@[irreducible] noncomputable def ccd : Value := cq.2.1.1.2.2
@[irreducible] noncomputable def cl : List (Str × Addr) := cq.2.1.2.1.1
@[irreducible] noncomputable def outer : List Env := cq.2.1.2.1.2
@[irreducible] noncomputable def A₀ : Around := cq.2.1.2.2
@[irreducible] noncomputable def base : Heap := cq.2.2.1.1.1
@[irreducible] noncomputable def h₀ : Heap := cq.2.2.1.1.2
@[irreducible] noncomputable def L : Addr := cq.2.2.1.2.1
@[irreducible] noncomputable def m : Str → Option Value := cq.2.2.1.2.2
@[irreducible] noncomputable def s : Shared := cq.2.2.2.1.1
@[irreducible] noncomputable def Q : Value → Shared → Prop := cq.2.2.2.1.2
@[irreducible] noncomputable def E : Value → Shared → Prop := cq.2.2.2.2
theorem coreq : Pq w p loose mean mg mb rest a n ta tn dp un gd cn cs a' ccd cl outer A₀ base h₀ L m s Q E := by
  unfold Pq
  intro hlt ha hn hn2 hb hc B F X N T hk hC1 hC2 hd hu hret
  obtain ⟨c1, c2, c3, c4, c5⟩ := cnt_facts ha hn hn2 hb
  have hR : RestIs rest := trivial
  have ecnt : cnt a n = ((Builtin.Int.intBits a : Int) + n - 1) / n := rfl
  rw [ecnt] at c1 c2 c3 c4 c5 hc
  refine wpAny_call ?_
  (k_dflt (refine' code_defC ?k1u3 ?k2u3 ?k3u3 ?k4u3 ?k5u3 ?kAu3 ?kFu3 ?kKu3 ?k6u3 ?k7u3 ?k8u3 ?k9u3 ?kBu3 ?kDu3 ?_ ?c2u3 ?c3u3 ?c4u3; (case kAu3 => exact rfl); (case kFu3 => exact rfl); (case kKu3 => assumption); (case k1u3 | k2u3 | k3u3 | k4u3 | k5u3 => k_asm); (case k6u3 => k_is); (case k7u3 => k_is); (case k8u3 => ktr_room); (case k9u3 => exact BindsTo.of_eq rfl); (case kBu3 => exact rfl); (case kDu3 => decide +kernel); (case c2u3 => exact rfl); (case c3u3 => exact rfl); (case c4u3 => exact rfl); k_whole; intro gz Lz hz tkz cz9 FGz Fz Nz Yz Bz Xz Tz l1z0; (have Cz := CodeHd.keeps (c := 41) (P := 37) (by assumption) (Fr.keep FGz)); (have Dz := CodeHd.keeps (c := 48) (P := 44) (by assumption) (Fr.keep FGz)); (have l2z0 := cells_lt l1z0); (simp only [AllLt, and_true] at l2z0); (try k_lt l1z0); k_cells Yz; (try simp only [List.cons_append, List.nil_append] at Nz); (try dsimp only); (try k_fold)))
  walk_at "STEPS"
  all_goals (try ((k_here; k_dflt (refine' use42 (i42_all _ _ _ _ _ _ 15) ?k1q15 ?k2q15 ?k3q15 ?k4q15 ?k5q15 ?k6q15 ?kc1q15 ?kc2q15 ?k7q15 ?k8q15 ?kRq15 ?mfq15 ?mcaq15 ?daq15 ?mDq15 ?mciq15 ?mcnq15 ?mcq15 ?diq15 ?dnq15 ?dcq15 ?dqq15 ?mtq15 ?hrq15 ?hiq15 ?neq15 ?nrq15 ?preq15 ?_); (((((case k1q15 | k2q15 | k3q15 | k4q15 | k5q15 => k_asm); (case k6q15 => first | exact rfl | assumption); (case k7q15 => ktr_room); (case k8q15 => ktr_units))); (case kc1q15 | kc2q15 => assumption))); (case kRq15 => assumption); (case mfq15 | mcaq15 => k_mem); (case daq15 => assumption); (case mDq15 | mciq15 | mcnq15 | mcq15 => k_mem); (case diq15 | dnq15 | dcq15 | dqq15 => assumption); (case mtq15 => k_mem); (case hrq15 => walk_at "SUB"); (case hiq15 => assumption); (case neq15 => (refine ⟨?_, ?_, ?_, ?_, ?_, ?_⟩ <;> k_ne)); (case nrq15 => k_all); rotate_left; (intro vs9q15 h9q15 tk9q15 F9q15 N9q15 I9q15; (try dsimp only); (try k_fold)))))
  all_goals (try walk_at "STEPS")
  all_goals (first | (with_reducible show Pre _) | walk_at "RET42")
  all_goals (try (rename (0 ≤ _ → _ = _) => e3; replace e3 := e3 c1; simp only [Nat.zero_add, Int.natCast_one, Int.one_mul] at e3))
  all_goals (try (rename IntsAre _ (fill _ _ _ _ _) => hI; rw [ecnt]; simp only [Int.sub_zero, Int.reduceToNat, e3, fill_zeros] at hI; exact hI))
  all_goals (try simp only [len_zeros, Int.sub_zero, e3])
  all_goals (try unfold Pre)
  all_goals (first | exact ⟨ha, Int.le_refl 0, c4 (pos_ne ha (by assumption)), hc, Int.self_le_toNat _, (by rw [Int.toNat_of_nonneg c1]; exact hc), hn, c2, c3⟩ | omega | (refine ⟨ha, by omega, by omega, by omega, by omega, by omega, hn, c2, c3⟩) | (rename a = 0 => h0; exact ints_z (by assumption) (by have := c5 h0; omega) (by have := c5 h0; omega)))
theorem allq (w : World) (p : Program) (loose : List Str) (mean : ExcName → Option Value) (mg : Str → Option Value) (mb : Str → Option Value) (rest : Led) (a : Int) (n : Int) (ta : Tok) (tn : Tok) (dp : Nat) (un : Nat) (gd : Option (List Code)) (cn : Str) (cs : Scope) (a' : Addr) (ccd : Value) (cl : List (Str × Addr)) (outer : List Env) (A₀ : Around) (base : Heap) (h₀ : Heap) (L : Addr) (m : Str → Option Value) (s : Shared) (Q : Value → Shared → Prop) (E : Value → Shared → Prop) : Pq w p loose mean mg mb rest a n ta tn dp un gd cn cs a' ccd cl outer A₀ base h₀ L m s Q E := by
  with_unfolding_all exact Classical.choose_spec exq coreq (((((w, p), (loose, mean)), ((mg, mb), rest)), (((a, n), (ta, tn)), ((dp, un), gd))), ((((cn, cs), (a', ccd)), ((cl, outer), A₀)), (((base, h₀), (L, m)), ((s, Q), E))))
end Ci2dfreshI
section
variable (w : World) (p : Program) (loose : List Str) (mean : ExcName → Option Value) (mg mb : Str → Option Value)
theorem i2d_freshI (rest : Led) (a n : Int) (ta tn : Tok) (hlt : ∀ q ∈ rest, q.1 ≠ 37) (ha : 0 ≤ a) (hn : 0 < n) (hn2 : n ≤ 2 ^ 22) (hb : Builtin.Int.intBits a ≤ 2 ^ 22) (hc : cnt a n ≤ 2 ^ 15) {dp : Nat} {un : Nat} {gd : Option (List Code)} {cn : Str} {cs : Scope} {a' : Addr} {ccd : Value} {cl : List (Str × Addr)} {outer : List Env} {A₀ : Around} {base : Heap} {h₀ : Heap} {L : Addr} {m : Str → Option Value} {s : Shared} {Q : Value → Shared → Prop} {E : Value → Shared → Prop}
    (B : Below A₀ base outer h₀) (F : Fr h₀ L s.heap m) (X : (hd.heap_39 w.params).In h₀) (N : News h₀ L s.heap ((37, tabObj #[]) :: rest)) (T : Top p loose mean mg mb h₀) (hk : cs.kind = .function) (hC1 : CodeHd h₀ 41 37) (hC2 : CodeHd h₀ 48 44) (hd : dp + 18 < recursionLimit) (hu : un + 200 < cLine) (hret : ∀ r news' h' tk', Fr h₀ L h' m → News h₀ L h' news' → (Out42 rest n.toNat (cnt a n).toNat a) r news' → Q r { s with heap := h', toks := tk' }) :
    wpAny (model PySem.Challenge.pw_sr0065_01 w) (ktrTop dp un gd cn cs L a' ccd cl outer) (call (.ref 42) [.int a ta, .int n tn]) Q E s :=
  Ci2dfreshI.allq w p loose mean mg mb rest a n ta tn dp un gd cn cs a' ccd cl outer A₀ base h₀ L m s Q E hlt ha hn hn2 hb hc B F X N T hk hC1 hC2 hd hu hret
theorem i2d_fresh (rest : Led) (a n : Int) (ta tn : Tok) (hlt : ∀ q ∈ rest, q.1 ≠ 37) (ha : 0 ≤ a) (hn : 0 < n) (hn2 : n ≤ 2 ^ 22) (hb : Builtin.Int.intBits a ≤ 2 ^ 22) (hc : cnt a n ≤ 2 ^ 15) :
   CallOkC w p loose mean mg mb 42 [.int a ta, .int n tn] 18 200 ((37, tabObj #[]) :: rest) (Out42 rest n.toNat (cnt a n).toNat a) := by
  unfold CallOkC
  intro dp un gd cn cs a' ccd cl outer A₀ base h₀ L m s Q E B F X N T hk hC1 hC2 hd hu hret
  exact i2d_freshI w p loose mean mg mb rest a n ta tn hlt ha hn hn2 hb hc B F X N T hk hC1 hC2 hd hu hret
end
namespace Ci2dmadeI
noncomputable def Pq (w : World) (p : Program) (loose : List Str) (mean : ExcName → Option Value) (mg : Str → Option Value) (mb : Str → Option Value) (rest : Led) (a : Int) (n : Int) (ta : Tok) (tn : Tok) (c : Addr) (oc : Obj) (ws : Array Value) (t : Tok) (dp : Nat) (un : Nat) (gd : Option (List Code)) (cn : Str) (cs : Scope) (a' : Addr) (ccd : Value) (cl : List (Str × Addr)) (outer : List Env) (A₀ : Around) (base : Heap) (h₀ : Heap) (L : Addr) (m : Str → Option Value) (s : Shared) (Q : Value → Shared → Prop) (E : Value → Shared → Prop) : Prop := ∀ (hlt : ∀ q ∈ rest, q.1 ≠ 37) (hcr : ∀ q ∈ rest, q.1 ≠ c) (hc37 : @Ne Nat c 37) (dc : oc.data = .fields ws) (dq : ws[1]? = some (.str qual42 t)) (ha : 0 ≤ a) (hn : 0 < n) (hn2 : n ≤ 2 ^ 22) (hb : Builtin.Int.intBits a ≤ 2 ^ 22) (hc : cnt a n ≤ 2 ^ 15) (B : Below A₀ base outer h₀) (F : Fr h₀ L s.heap m) (X : (hd.heap_39 w.params).In h₀) (N : News h₀ L s.heap ((37, tabObj #[rawInt 35, rawInt 4, .ref c]) :: (c, oc) :: rest)) (T : Top p loose mean mg mb h₀) (hk : cs.kind = .function) (hC1 : CodeHd h₀ 41 37) (hC2 : CodeHd h₀ 48 44) (hd : dp + 18 < recursionLimit) (hu : un + 200 < cLine) (hret : ∀ r news' h' tk', Fr h₀ L h' m → News h₀ L h' news' → (Out42 rest n.toNat (cnt a n).toNat a) r news' → Q r { s with heap := h', toks := tk' }),
    wpAny (model PySem.Challenge.pw_sr0065_01 w) (ktrTop dp un gd cn cs L a' ccd cl outer) (call (.ref 42) [.int a ta, .int n tn]) Q E s
noncomputable abbrev Tq : Type := (((((World × Program) × ((List Str) × (ExcName → Option Value))) × (((Str → Option Value) × (Str → Option Value)) × (Led × Int))) × (((Int × Tok) × (Tok × Addr)) × ((Obj × (Array Value)) × (Tok × Nat)))) × ((((Nat × (Option (List Code))) × (Str × Scope)) × ((Addr × Value) × ((List (Str × Addr)) × (List Env)))) × (((Around × Heap) × (Heap × Addr)) × (((Str → Option Value) × Shared) × ((Value → Shared → Prop) × (Value → Shared → Prop))))))
theorem exq : ∃ t : Tq, Pq t.1.1.1.1.1 t.1.1.1.1.2 t.1.1.1.2.1 t.1.1.1.2.2 t.1.1.2.1.1 t.1.1.2.1.2 t.1.1.2.2.1 t.1.1.2.2.2 t.1.2.1.1.1 t.1.2.1.1.2 t.1.2.1.2.1 t.1.2.1.2.2 t.1.2.2.1.1 t.1.2.2.1.2 t.1.2.2.2.1 t.1.2.2.2.2 t.2.1.1.1.1 t.2.1.1.1.2 t.2.1.1.2.1 t.2.1.1.2.2 t.2.1.2.1.1 t.2.1.2.1.2 t.2.1.2.2.1 t.2.1.2.2.2 t.2.2.1.1.1 t.2.2.1.1.2 t.2.2.1.2.1 t.2.2.1.2.2 t.2.2.2.1.1 t.2.2.2.1.2 t.2.2.2.2.1 t.2.2.2.2.2 → ∀ t : Tq, Pq t.1.1.1.1.1 t.1.1.1.1.2 t.1.1.1.2.1 t.1.1.1.2.2 t.1.1.2.1.1 t.1.1.2.1.2 t.1.1.2.2.1 t.1.1.2.2.2 t.1.2.1.1.1 t.1.2.1.1.2 t.1.2.1.2.1 t.1.2.1.2.2 t.1.2.2.1.1 t.1.2.2.1.2 t.1.2.2.2.1 t.1.2.2.2.2 t.2.1.1.1.1 t.2.1.1.1.2 t.2.1.1.2.1 t.2.1.1.2.2 t.2.1.2.1.1 t.2.1.2.1.2 t.2.1.2.2.1 t.2.1.2.2.2 t.2.2.1.1.1 t.2.2.1.1.2 t.2.2.1.2.1 t.2.2.1.2.2 t.2.2.2.1.1 t.2.2.2.1.2 t.2.2.2.2.1 t.2.2.2.2.2 := dk (α := Tq) ((((((aWorld 0, default), (default, (fun _ => default))), (((fun _ => default), (fun _ => default)), (default, default))), (((default, default), (default, default)), ((default, default), (default, default)))), ((((default, default), (default, default)), ((default, default), (default, default))), (((({} : Around), default), (default, default)), (((fun _ => default), ({} : Shared)), ((fun _ _ => True), (fun _ _ => True))))))) _
noncomputable def cq : Tq := Classical.choose exq
@[irreducible] noncomputable def w : World := cq.1.1.1.1.1
@[irreducible] noncomputable def p : Program := cq.1.1.1.1.2
@[irreducible] noncomputable def loose : List Str := cq.1.1.1.2.1
@[irreducible] noncomputable def mean : ExcName → Option Value := cq.1.1.1.2.2
@[irreducible] noncomputable def mg : Str → Option Value := cq.1.1.2.1.1
@[irreducible] noncomputable def mb : Str → Option Value := cq.1.1.2.1.2
@[irreducible] noncomputable def rest : Led := cq.1.1.2.2.1
@[irreducible] noncomputable def a : Int := cq.1.1.2.2.2
@[irreducible] noncomputable def n : Int := cq.1.2.1.1.1
@[irreducible] noncomputable def ta : Tok := cq.1.2.1.1.2
@[irreducible] noncomputable def tn : Tok := cq.1.2.1.2.1
@[irreducible] noncomputable def c : Addr := cq.1.2.1.2.2
@[irreducible] noncomputable def oc : Obj := cq.1.2.2.1.1
@[irreducible] noncomputable def ws : Array Value := cq.1.2.2.1.2
@[irreducible] noncomputable def t : Tok := cq.1.2.2.2.1
@[irreducible] noncomputable def dp : Nat := cq.1.2.2.2.2
@[irreducible] noncomputable def un : Nat := cq.2.1.1.1.1
@[irreducible] noncomputable def gd : Option (List Code) := cq.2.1.1.1.2
@[irreducible] noncomputable def cn : Str := cq.2.1.1.2.1
@[irreducible] noncomputable def cs : Scope := cq.2.1.1.2.2
@[irreducible] noncomputable def a' : Addr := cq.2.1.2.1.1
@[irreducible] noncomputable def ccd : Value := cq.2.1.2.1.2
@[irreducible] noncomputable def cl : List (Str × Addr) := cq.2.1.2.2.1
@[irreducible] noncomputable def outer : List Env := cq.2.1.2.2.2
@[irreducible] noncomputable def A₀ : Around := cq.2.2.1.1.1
@[irreducible] noncomputable def base : Heap := cq.2.2.1.1.2
@[irreducible] noncomputable def h₀ : Heap := cq.2.2.1.2.1
@[irreducible] noncomputable def L : Addr := cq.2.2.1.2.2
@[irreducible] noncomputable def m : Str → Option Value := cq.2.2.2.1.1
@[irreducible] noncomputable def s : Shared := cq.2.2.2.1.2
@[irreducible] noncomputable def Q : Value → Shared → Prop := cq.2.2.2.2.1
@[irreducible] noncomputable def E : Value → Shared → Prop := cq.2.2.2.2.2
theorem coreq : Pq w p loose mean mg mb rest a n ta tn c oc ws t dp un gd cn cs a' ccd cl outer A₀ base h₀ L m s Q E := by
  unfold Pq
  intro hlt hcr hc37 dc dq ha hn hn2 hb hc B F X N T hk hC1 hC2 hd hu hret
  obtain ⟨c1, c2, c3, c4, c5⟩ := cnt_facts ha hn hn2 hb
  have hR : RestIs rest := trivial
  have ecnt : cnt a n = ((Builtin.Int.intBits a : Int) + n - 1) / n := rfl
  rw [ecnt] at c1 c2 c3 c4 c5 hc
  refine wpAny_call ?_
  (k_dflt (refine' code_defC ?k1u4 ?k2u4 ?k3u4 ?k4u4 ?k5u4 ?kAu4 ?kFu4 ?kKu4 ?k6u4 ?k7u4 ?k8u4 ?k9u4 ?kBu4 ?kDu4 ?_ ?c2u4 ?c3u4 ?c4u4; (case kAu4 => exact rfl); (case kFu4 => exact rfl); (case kKu4 => assumption); (case k1u4 | k2u4 | k3u4 | k4u4 | k5u4 => k_asm); (case k6u4 => k_is); (case k7u4 => k_is); (case k8u4 => ktr_room); (case k9u4 => exact BindsTo.of_eq rfl); (case kBu4 => exact rfl); (case kDu4 => decide +kernel); (case c2u4 => exact rfl); (case c3u4 => exact rfl); (case c4u4 => exact rfl); k_whole; intro gz Lz hz tkz cz9 FGz Fz Nz Yz Bz Xz Tz l1z0; (have Cz := CodeHd.keeps (c := 41) (P := 37) (by assumption) (Fr.keep FGz)); (have Dz := CodeHd.keeps (c := 48) (P := 44) (by assumption) (Fr.keep FGz)); (have l2z0 := cells_lt l1z0); (simp only [AllLt, and_true] at l2z0); (try k_lt l1z0); k_cells Yz; (try simp only [List.cons_append, List.nil_append] at Nz); (try dsimp only); (try k_fold)))
  walk_at "STEPS"
  all_goals (try ((k_here; k_dflt (refine' use42 (i42_all _ _ _ _ _ _ 15) ?k1q16 ?k2q16 ?k3q16 ?k4q16 ?k5q16 ?k6q16 ?kc1q16 ?kc2q16 ?k7q16 ?k8q16 ?kRq16 ?mfq16 ?mcaq16 ?daq16 ?mDq16 ?mciq16 ?mcnq16 ?mcq16 ?diq16 ?dnq16 ?dcq16 ?dqq16 ?mtq16 ?hrq16 ?hiq16 ?neq16 ?nrq16 ?preq16 ?_); (((((case k1q16 | k2q16 | k3q16 | k4q16 | k5q16 => k_asm); (case k6q16 => first | exact rfl | assumption); (case k7q16 => ktr_room); (case k8q16 => ktr_units))); (case kc1q16 | kc2q16 => assumption))); (case kRq16 => assumption); (case mfq16 | mcaq16 => k_mem); (case daq16 => assumption); (case mDq16 | mciq16 | mcnq16 | mcq16 => k_mem); (case diq16 | dnq16 | dcq16 | dqq16 => assumption); (case mtq16 => k_mem); (case hrq16 => walk_at "SUB"); (case hiq16 => assumption); (case neq16 => (refine ⟨?_, ?_, ?_, ?_, ?_, ?_⟩ <;> k_ne)); (case nrq16 => k_all); rotate_left; (intro vs9q16 h9q16 tk9q16 F9q16 N9q16 I9q16; (try dsimp only); (try k_fold)))))
  all_goals (try walk_at "STEPS")
  all_goals (first | (with_reducible show Pre _) | walk_at "RET42")
  all_goals (try (rename (0 ≤ _ → _ = _) => e3; replace e3 := e3 c1; simp only [Nat.zero_add, Int.natCast_one, Int.one_mul] at e3))
  all_goals (try (rename IntsAre _ (fill _ _ _ _ _) => hI; rw [ecnt]; simp only [Int.sub_zero, Int.reduceToNat, e3, fill_zeros] at hI; exact hI))
  all_goals (try simp only [len_zeros, Int.sub_zero, e3])
  all_goals (try unfold Pre)
  all_goals (first | exact ⟨ha, Int.le_refl 0, c4 (pos_ne ha (by assumption)), hc, Int.self_le_toNat _, (by rw [Int.toNat_of_nonneg c1]; exact hc), hn, c2, c3⟩ | omega | (refine ⟨ha, by omega, by omega, by omega, by omega, by omega, hn, c2, c3⟩) | (rename a = 0 => h0; exact ints_z (by assumption) (by have := c5 h0; omega) (by have := c5 h0; omega)))
theorem allq (w : World) (p : Program) (loose : List Str) (mean : ExcName → Option Value) (mg : Str → Option Value) (mb : Str → Option Value) (rest : Led) (a : Int) (n : Int) (ta : Tok) (tn : Tok) (c : Addr) (oc : Obj) (ws : Array Value) (t : Tok) (dp : Nat) (un : Nat) (gd : Option (List Code)) (cn : Str) (cs : Scope) (a' : Addr) (ccd : Value) (cl : List (Str × Addr)) (outer : List Env) (A₀ : Around) (base : Heap) (h₀ : Heap) (L : Addr) (m : Str → Option Value) (s : Shared) (Q : Value → Shared → Prop) (E : Value → Shared → Prop) : Pq w p loose mean mg mb rest a n ta tn c oc ws t dp un gd cn cs a' ccd cl outer A₀ base h₀ L m s Q E := by
  with_unfolding_all exact Classical.choose_spec exq coreq (((((w, p), (loose, mean)), ((mg, mb), (rest, a))), (((n, ta), (tn, c)), ((oc, ws), (t, dp)))), ((((un, gd), (cn, cs)), ((a', ccd), (cl, outer))), (((A₀, base), (h₀, L)), ((m, s), (Q, E)))))
end Ci2dmadeI
section
variable (w : World) (p : Program) (loose : List Str) (mean : ExcName → Option Value) (mg mb : Str → Option Value)
theorem i2d_madeI (rest : Led) (a n : Int) (ta tn : Tok) {c : Addr} {oc : Obj} {ws : Array Value} {t : Tok} (hlt : ∀ q ∈ rest, q.1 ≠ 37) (hcr : ∀ q ∈ rest, q.1 ≠ c) (hc37 : @Ne Nat c 37) (dc : oc.data = .fields ws) (dq : ws[1]? = some (.str qual42 t))
   (ha : 0 ≤ a) (hn : 0 < n) (hn2 : n ≤ 2 ^ 22) (hb : Builtin.Int.intBits a ≤ 2 ^ 22) (hc : cnt a n ≤ 2 ^ 15) {dp : Nat} {un : Nat} {gd : Option (List Code)} {cn : Str} {cs : Scope} {a' : Addr} {ccd : Value} {cl : List (Str × Addr)} {outer : List Env} {A₀ : Around} {base : Heap} {h₀ : Heap} {L : Addr} {m : Str → Option Value} {s : Shared} {Q : Value → Shared → Prop} {E : Value → Shared → Prop}
    (B : Below A₀ base outer h₀) (F : Fr h₀ L s.heap m) (X : (hd.heap_39 w.params).In h₀) (N : News h₀ L s.heap ((37, tabObj #[rawInt 35, rawInt 4, .ref c]) :: (c, oc) :: rest)) (T : Top p loose mean mg mb h₀) (hk : cs.kind = .function) (hC1 : CodeHd h₀ 41 37) (hC2 : CodeHd h₀ 48 44) (hd : dp + 18 < recursionLimit) (hu : un + 200 < cLine) (hret : ∀ r news' h' tk', Fr h₀ L h' m → News h₀ L h' news' → (Out42 rest n.toNat (cnt a n).toNat a) r news' → Q r { s with heap := h', toks := tk' }) :
    wpAny (model PySem.Challenge.pw_sr0065_01 w) (ktrTop dp un gd cn cs L a' ccd cl outer) (call (.ref 42) [.int a ta, .int n tn]) Q E s :=
  Ci2dmadeI.allq w p loose mean mg mb rest a n ta tn c oc ws t dp un gd cn cs a' ccd cl outer A₀ base h₀ L m s Q E hlt hcr hc37 dc dq ha hn hn2 hb hc B F X N T hk hC1 hC2 hd hu hret
theorem i2d_made (rest : Led) (a n : Int) (ta tn : Tok) {c : Addr} {oc : Obj} {ws : Array Value} {t : Tok} (hlt : ∀ q ∈ rest, q.1 ≠ 37) (hcr : ∀ q ∈ rest, q.1 ≠ c) (hc37 : @Ne Nat c 37) (dc : oc.data = .fields ws) (dq : ws[1]? = some (.str qual42 t))
   (ha : 0 ≤ a) (hn : 0 < n) (hn2 : n ≤ 2 ^ 22) (hb : Builtin.Int.intBits a ≤ 2 ^ 22) (hc : cnt a n ≤ 2 ^ 15) :
   CallOkC w p loose mean mg mb 42 [.int a ta, .int n tn] 18 200 ((37, tabObj #[rawInt 35, rawInt 4, .ref c]) :: (c, oc) :: rest) (Out42 rest n.toNat (cnt a n).toNat a) := by
  unfold CallOkC
  intro dp un gd cn cs a' ccd cl outer A₀ base h₀ L m s Q E B F X N T hk hC1 hC2 hd hu hret
  exact i2d_madeI w p loose mean mg mb rest a n ta tn (c := c) (oc := oc) (ws := ws) (t := t) hlt hcr hc37 dc dq ha hn hn2 hb hc B F X N T hk hC1 hC2 hd hu hret
theorem i2d_ok (T rest : Led) (a n : Int) (ta tn : Tok) (hT : TabSt 37 35 4 qual42 T rest) (ha : 0 ≤ a) (hn : 0 < n) (hn2 : n ≤ 2 ^ 22) (hb : Builtin.Int.intBits a ≤ 2 ^ 22) (hc : cnt a n ≤ 2 ^ 15) :
   CallOkC w p loose mean mg mb 42 [.int a ta, .int n tn] 18 200 (T ++ rest) (Out42 rest n.toNat (cnt a n).toNat a) := by
  cases hT with
  | fresh h1 => exact i2d_fresh w p loose mean mg mb rest a n ta tn h1 ha hn hn2 hb hc
  | made h1 h2 h3 h4 h5 => exact i2d_made w p loose mean mg mb rest a n ta tn h1 h2 h3 h4 h5 ha hn hn2 hb hc
end
-- C7
theorem fresh_C7 : True := by
  w_top off
  exact trivial
noncomputable def qual49 : Str := qualnameIn (envOfC (Str.ofString "_digits2int") default 0 49 (.ref 48)) (Str.ofString "inner") (Str.ofString "inner")
noncomputable abbrev fn49 (P : Params) (qual : Str) (cn ci cd : Addr) (doc pm : Value) (c' : Addr) (ctv : Value) : Obj :=
  fnMade (Str.ofString "inner") qual (defParams (in49 P)) (defBody (in49 P)) (defScope (in49 P)) [(Str.ofString "n", cn), (Str.ofString "inner", ci), (Str.ofString "digits", cd)] doc pm c' ctv
noncomputable abbrev led49 (P : Params) (f c' D ci cd cn : Addr) (qual : Str) (doc pm ctv : Value) (oc oi od on : Obj) (vs : List Value) (k : Nat) (rest : Led) : Led :=
  (f, fn49 P qual cn ci cd doc pm c' ctv) :: (c', oc) :: (ci, oi) :: (cd, od) :: (cn, on) :: (D, listOf vs.toArray k) :: rest
structure Facts49 (f D : Addr) (qual : Str) (oc oi od on : Obj) (ws : Array Value) (t : Tok) (n : Int) (tn : Tok) : Prop where
  c : oc.data = .fields ws
  q : ws[1]? = some (.str qual t)
  i : oi.data = .cell (some (.ref f))
  d : od.data = .cell (some (.ref D))
  n : on.data = .cell (some (.int n tn))
theorem ret_int {Q : Value → Shared → Prop} {s : Shared} {x y : Int} {t : Tok} (e : Pre (y = x)) (h : Q (.int x t) s) : Q (.int y t) s := by
  have e' : y = x := e
  subst e'; exact h
noncomputable def I49 (w : World) (p : Program) (loose : List Str) (mean : ExcName → Option Value) (mg mb : Str → Option Value) (d : Nat) : Prop :=
  ∀ (lo hi n : Int) (tl th tn : Tok) (f c' D ci cd cn : Addr) (qual : Str) (doc pm ctv : Value) (oc oi od on : Obj) (ws : Array Value) (t : Tok) (vs : List Value) (ns : List Int) (k : Nat) (rest : Led),
    Facts49 f D qual oc oi od on ws t n tn → IntsAre vs ns →
    Pre (0 ≤ lo ∧ lo < hi ∧ hi - lo ≤ 2 ^ d ∧ hi ≤ ns.length ∧ (ns.length : Int) ≤ 2 ^ 15 ∧ 0 < n ∧ n * (hi - lo) ≤ 2 ^ 26 ∧ AreDigits n.toNat ns) →
    CallOkC w p loose mean mg mb f [.int lo tl, .int hi th] (d + 1) (8 * d + 8) (led49 w.params f c' D ci cd cn qual doc pm ctv oc oi od on vs k rest)
      fun r news' => (∃ tr, r = .int (undig n.toNat (part ns lo.toNat hi.toNat)) tr) ∧ news' = led49 w.params f c' D ci cd cn qual doc pm ctv oc oi od on vs k rest
section
variable (w : World) (p : Program) (loose : List Str) (mean : ExcName → Option Value) (mg mb : Str → Option Value)
end
namespace Ci49baseI
noncomputable def Pq (w : World) (p : Program) (loose : List Str) (mean : ExcName → Option Value) (mg : Str → Option Value) (mb : Str → Option Value) (d : Nat) (lo : Int) (hi : Int) (n : Int) (tl : Tok) (th : Tok) (tn : Tok) (f : Addr) (c' : Addr) (D : Addr) (ci : Addr) (cd : Addr) (cn : Addr) (qual : Str) (doc : Value) (pm : Value) (ctv : Value) (oc : Obj) (oi : Obj) (od : Obj) (on : Obj) (ws : Array Value) (t : Tok) (vs : List Value) (ns : List Int) (k : Nat) (rest : Led) (dp : Nat) (un : Nat) (gd : Option (List Code)) (cn' : Str) (cs : Scope) (a' : Addr) (ccd : Value) (cl : List (Str × Addr)) (outer : List Env) (A₀ : Around) (base : Heap) (h₀ : Heap) (L : Addr) (m : Str → Option Value) (s : Shared) (Q : Value → Shared → Prop) (E : Value → Shared → Prop) : Prop := ∀ (H : Facts49 f D qual oc oi od on ws t n tn) (hvs : IntsAre vs ns) (hlo : 0 ≤ lo) (hhi : lo + 1 = hi) (hlen : hi ≤ ns.length) (hmax : (ns.length : Int) ≤ 2 ^ 15) (B : Below A₀ base outer h₀) (F : Fr h₀ L s.heap m) (X : (hd.heap_39 w.params).In h₀) (N : News h₀ L s.heap (led49 w.params f c' D ci cd cn qual doc pm ctv oc oi od on vs k rest)) (T : Top p loose mean mg mb h₀) (hk : cs.kind = .function) (hC1 : CodeHd h₀ 41 37) (hC2 : CodeHd h₀ 48 44) (hd : dp + (d + 1) < recursionLimit) (hu : un + (8 * d + 8) < cLine) (hret : ∀ r news' h' tk', Fr h₀ L h' m → News h₀ L h' news' → ((∃ tr, r = .int (undig n.toNat (part ns lo.toNat hi.toNat)) tr) ∧ news' = led49 w.params f c' D ci cd cn qual doc pm ctv oc oi od on vs k rest) → Q r { s with heap := h', toks := tk' }),
    wpAny (model PySem.Challenge.pw_sr0065_01 w) (ktrTop dp un gd cn' cs L a' ccd cl outer) (call (.ref f) [.int lo tl, .int hi th]) Q E s
noncomputable abbrev Tq : Type := ((((((World × Program) × ((List Str) × (ExcName → Option Value))) × (((Str → Option Value) × (Str → Option Value)) × Nat)) × (((Int × Int) × Int) × ((Tok × Tok) × Tok))) × ((((Addr × Addr) × Addr) × ((Addr × Addr) × Addr)) × (((Str × Value) × Value) × ((Value × Obj) × Obj)))) × (((((Obj × Obj) × ((Array Value) × Tok)) × (((List Value) × (List Int)) × Nat)) × (((Led × Nat) × Nat) × (((Option (List Code)) × Str) × Scope))) × ((((Addr × Value) × (List (Str × Addr))) × (((List Env) × Around) × Heap)) × (((Heap × Addr) × (Str → Option Value)) × ((Shared × (Value → Shared → Prop)) × (Value → Shared → Prop))))))
theorem exq : ∃ t : Tq, Pq t.1.1.1.1.1.1 t.1.1.1.1.1.2 t.1.1.1.1.2.1 t.1.1.1.1.2.2 t.1.1.1.2.1.1 t.1.1.1.2.1.2 t.1.1.1.2.2 t.1.1.2.1.1.1 t.1.1.2.1.1.2 t.1.1.2.1.2 t.1.1.2.2.1.1 t.1.1.2.2.1.2 t.1.1.2.2.2 t.1.2.1.1.1.1 t.1.2.1.1.1.2 t.1.2.1.1.2 t.1.2.1.2.1.1 t.1.2.1.2.1.2 t.1.2.1.2.2 t.1.2.2.1.1.1 t.1.2.2.1.1.2 t.1.2.2.1.2 t.1.2.2.2.1.1 t.1.2.2.2.1.2 t.1.2.2.2.2 t.2.1.1.1.1.1 t.2.1.1.1.1.2 t.2.1.1.1.2.1 t.2.1.1.1.2.2 t.2.1.1.2.1.1 t.2.1.1.2.1.2 t.2.1.1.2.2 t.2.1.2.1.1.1 t.2.1.2.1.1.2 t.2.1.2.1.2 t.2.1.2.2.1.1 t.2.1.2.2.1.2 t.2.1.2.2.2 t.2.2.1.1.1.1 t.2.2.1.1.1.2 t.2.2.1.1.2 t.2.2.1.2.1.1 t.2.2.1.2.1.2 t.2.2.1.2.2 t.2.2.2.1.1.1 t.2.2.2.1.1.2 t.2.2.2.1.2 t.2.2.2.2.1.1 t.2.2.2.2.1.2 t.2.2.2.2.2 → ∀ t : Tq, Pq t.1.1.1.1.1.1 t.1.1.1.1.1.2 t.1.1.1.1.2.1 t.1.1.1.1.2.2 t.1.1.1.2.1.1 t.1.1.1.2.1.2 t.1.1.1.2.2 t.1.1.2.1.1.1 t.1.1.2.1.1.2 t.1.1.2.1.2 t.1.1.2.2.1.1 t.1.1.2.2.1.2 t.1.1.2.2.2 t.1.2.1.1.1.1 t.1.2.1.1.1.2 t.1.2.1.1.2 t.1.2.1.2.1.1 t.1.2.1.2.1.2 t.1.2.1.2.2 t.1.2.2.1.1.1 t.1.2.2.1.1.2 t.1.2.2.1.2 t.1.2.2.2.1.1 t.1.2.2.2.1.2 t.1.2.2.2.2 t.2.1.1.1.1.1 t.2.1.1.1.1.2 t.2.1.1.1.2.1 t.2.1.1.1.2.2 t.2.1.1.2.1.1 t.2.1.1.2.1.2 t.2.1.1.2.2 t.2.1.2.1.1.1 t.2.1.2.1.1.2 t.2.1.2.1.2 t.2.1.2.2.1.1 t.2.1.2.2.1.2 t.2.1.2.2.2 t.2.2.1.1.1.1 t.2.2.1.1.1.2 t.2.2.1.1.2 t.2.2.1.2.1.1 t.2.2.1.2.1.2 t.2.2.1.2.2 t.2.2.2.1.1.1 t.2.2.2.1.1.2 t.2.2.2.1.2 t.2.2.2.2.1.1 t.2.2.2.2.1.2 t.2.2.2.2.2 := dk (α := Tq) (((((((aWorld 0, default), (default, (fun _ => default))), (((fun _ => default), (fun _ => default)), default)), (((default, default), default), ((default, default), default))), ((((default, default), default), ((default, default), default)), (((default, default), default), ((default, default), default)))), (((((default, default), (default, default)), ((default, default), default)), (((default, default), default), ((default, default), default))), ((((default, default), default), ((default, ({} : Around)), default)), (((default, default), (fun _ => default)), ((({} : Shared), (fun _ _ => True)), (fun _ _ => True))))))) _
noncomputable def cq : Tq := Classical.choose exq
@[irreducible] noncomputable def w : World := cq.1.1.1.1.1.1
@[irreducible] noncomputable def p : Program := cq.1.1.1.1.1.2
@[irreducible] noncomputable def loose : List Str := cq.1.1.1.1.2.1
@[irreducible] noncomputable def mean : ExcName → Option Value := cq.1.1.1.1.2.2
@[irreducible] noncomputable def mg : Str → Option Value := cq.1.1.1.2.1.1
@[irreducible] noncomputable def mb : Str → Option Value := cq.1.1.1.2.1.2
@[irreducible] noncomputable def d : Nat := cq.1.1.1.2.2
@[irreducible] noncomputable def lo : Int := cq.1.1.2.1.1.1
@[irreducible] noncomputable def hi : Int := cq.1.1.2.1.1.2
@[irreducible] noncomputable def n : Int := cq.1.1.2.1.2
@[irreducible] noncomputable def tl : Tok := cq.1.1.2.2.1.1
@[irreducible] noncomputable def th : Tok := cq.1.1.2.2.1.2
@[irreducible] noncomputable def tn : Tok := cq.1.1.2.2.2
@[irreducible] noncomputable def f : Addr := cq.1.2.1.1.1.1
@[irreducible] noncomputable def c' : Addr := cq.1.2.1.1.1.2
@[irreducible] noncomputable def D : Addr := cq.1.2.1.1.2
@[irreducible] noncomputable def ci : Addr := cq.1.2.1.2.1.1
@[irreducible] noncomputable def cd : Addr := cq.1.2.1.2.1.2
@[irreducible] noncomputable def cn : Addr := cq.1.2.1.2.2
@[irreducible] noncomputable def qual : Str := cq.1.2.2.1.1.1
@[irreducible] noncomputable def doc : Value := cq.1.2.2.1.1.2
@[irreducible] noncomputable def pm : Value := cq.1.2.2.1.2
@[irreducible] noncomputable def ctv : Value := cq.1.2.2.2.1.1
@[irreducible] noncomputable def oc : Obj := cq.1.2.2.2.1.2
@[irreducible] noncomputable def oi : Obj := cq.1.2.2.2.2
@[irreducible] noncomputable def od : Obj := cq.2.1.1.1.1.1
@[irreducible] noncomputable def on : Obj := cq.2.1.1.1.1.2
@[irreducible] noncomputable def ws : Array Value := cq.2.1.1.1.2.1
@[irreducible] noncomputable def t : Tok := cq.2.1.1.1.2.2
@[irreducible] noncomputable def vs : List Value := cq.2.1.1.2.1.1
@[irreducible] noncomputable def ns : List Int := cq.2.1.1.2.1.2
@[irreducible] noncomputable def k : Nat := cq.2.1.1.2.2
@[irreducible] noncomputable def rest : Led := cq.2.1.2.1.1.1
@[irreducible] noncomputable def dp : Nat := cq.2.1.2.1.1.2
@[irreducible] noncomputable def un : Nat := cq.2.1.2.1.2
@[irreducible] noncomputable def gd : Option (List Code) := cq.2.1.2.2.1.1
@[irreducible] noncomputable def cn' : Str := cq.2.1.2.2.1.2
@[irreducible] noncomputable def cs : Scope := cq.2.1.2.2.2
@[irreducible] noncomputable def a' : Addr := cq.2.2.1.1.1.1
@[irreducible] noncomputable def ccd : Value := cq.2.2.1.1.1.2
@[irreducible] noncomputable def cl : List (Str × Addr) := cq.2.2.1.1.2
@[irreducible] noncomputable def outer : List Env := cq.2.2.1.2.1.1
@[irreducible] noncomputable def A₀ : Around := cq.2.2.1.2.1.2
@[irreducible] noncomputable def base : Heap := cq.2.2.1.2.2
@[irreducible] noncomputable def h₀ : Heap := cq.2.2.2.1.1.1
@[irreducible] noncomputable def L : Addr := cq.2.2.2.1.1.2
@[irreducible] noncomputable def m : Str → Option Value := cq.2.2.2.1.2
@[irreducible] noncomputable def s : Shared := cq.2.2.2.2.1.1
@[irreducible] noncomputable def Q : Value → Shared → Prop := cq.2.2.2.2.1.2
@[irreducible] noncomputable def E : Value → Shared → Prop := cq.2.2.2.2.2
noncomputable def cutq : {G : Prop // (∀ (H : Facts49 f D qual oc oi od on ws t n tn) (hvs : IntsAre vs ns) (hlo : 0 ≤ lo) (hhi : lo + 1 = hi) (hlen : hi ≤ ns.length) (hmax : (ns.length : Int) ≤ 2 ^ 15) (B : Below A₀ base outer h₀) (F : Fr h₀ L s.heap m) (X : (hd.heap_39 w.params).In h₀) (N : News h₀ L s.heap (led49 w.params f c' D ci cd cn qual doc pm ctv oc oi od on vs k rest)) (T : Top p loose mean mg mb h₀) (hk : cs.kind = .function) (hC1 : CodeHd h₀ 41 37) (hC2 : CodeHd h₀ 48 44) (hd : dp + (d + 1) < recursionLimit) (hu : un + (8 * d + 8) < cLine) (hret : ∀ r news' h' tk', Fr h₀ L h' m → News h₀ L h' news' → ((∃ tr, r = .int (undig n.toNat (part ns lo.toNat hi.toNat)) tr) ∧ news' = led49 w.params f c' D ci cd cn qual doc pm ctv oc oi od on vs k rest) → Q r { s with heap := h', toks := tk' }), G) → Pq w p loose mean mg mb d lo hi n tl th tn f c' D ci cd cn qual doc pm ctv oc oi od on ws t vs ns k rest dp un gd cn' cs a' ccd cl outer A₀ base h₀ L m s Q E} := ⟨_, fun h9z => by
  unfold Pq
  intro H hvs hlo hhi hlen hmax B F X N T hk hC1 hC2 hd hu hret
  have h9y := fun (_ : Unit) => h9z H hvs hlo hhi hlen hmax B F X N T hk hC1 hC2 hd hu hret
  obtain ⟨f1, f2, f3, f4, f5⟩ := H
  dsimp only [led49, fn49, in49, obj49, stmtsOf, defBody, defParams, defScope, sParts, List.getElem?_cons_succ, List.getElem?_cons_zero, Option.getD_some] at N hret
  refine wpAny_call ?_
  (k_dflt (refine' code_nest ?k1u5 ?k2u5 ?k3u5 ?k4u5 ?k5u5 ?kAu5 ?kFu5 ?kKu5 ?k6u5 ?k7u5 ?k8u5 ?k9u5 ?kBu5 ?_ ?c2u5 ?c3u5 ?c4u5 ?c5u5; (case kAu5 => exact rfl); (case kFu5 => exact rfl); (case kKu5 => assumption); (case k1u5 | k2u5 | k3u5 | k4u5 | k5u5 => k_asm); (case k6u5 => k_mem); (case k7u5 => exact codeRec_news (by k_asm) (by k_mem) (by assumption) (by assumption)); (case k8u5 => ktr_room); (case k9u5 => exact BindsTo.of_eq rfl); (case c5u5 => decide); (case kBu5 => exact locs rfl); (case c2u5 => exact rfl); (case c3u5 => exact rfl); (case c4u5 => exact rfl); k_whole; intro gz Lz hz FGz Fz Nz Bz Xz Tz; (have Cz := CodeHd.keeps (c := 41) (P := 37) (by assumption) (Fr.keep FGz)); (have Dz := CodeHd.keeps (c := 48) (P := 44) (by assumption) (Fr.keep FGz)); (try dsimp only); (try k_fold)))
  revert Dz
  revert Cz
  revert Tz
  revert Xz
  revert Bz
  revert Nz
  revert Fz
  revert FGz
  revert hz
  revert Lz
  revert gz
  exact h9y ()⟩
noncomputable def pcq : {Pc : Heap → Addr → Heap → Prop // (∀ a b c, Pc a b c) → cutq.1} := ⟨_, fun h => h⟩
theorem exc : ∃ t : ((Heap × Addr) × Heap), pcq.1 t.1.1 t.1.2 t.2 → ∀ t : ((Heap × Addr) × Heap), pcq.1 t.1.1 t.1.2 t.2 := dk (α := ((Heap × Addr) × Heap)) ((default, default), default) _
noncomputable def ccq : ((Heap × Addr) × Heap) := Classical.choose exc
@[irreducible] noncomputable def gz : Heap := ccq.1.1
@[irreducible] noncomputable def Lz : Addr := ccq.1.2
@[irreducible] noncomputable def hz : Heap := ccq.2
theorem core2 (H : Facts49 f D qual oc oi od on ws t n tn) (hvs : IntsAre vs ns) (hlo : 0 ≤ lo) (hhi : lo + 1 = hi) (hlen : hi ≤ ns.length) (hmax : (ns.length : Int) ≤ 2 ^ 15) (B : Below A₀ base outer h₀) (F : Fr h₀ L s.heap m) (X : (hd.heap_39 w.params).In h₀) (N : News h₀ L s.heap (led49 w.params f c' D ci cd cn qual doc pm ctv oc oi od on vs k rest)) (T : Top p loose mean mg mb h₀) (hk : cs.kind = .function) (hC1 : CodeHd h₀ 41 37) (hC2 : CodeHd h₀ 48 44) (hd : dp + (d + 1) < recursionLimit) (hu : un + (8 * d + 8) < cLine) (hret : ∀ r news' h' tk', Fr h₀ L h' m → News h₀ L h' news' → ((∃ tr, r = .int (undig n.toNat (part ns lo.toNat hi.toNat)) tr) ∧ news' = led49 w.params f c' D ci cd cn qual doc pm ctv oc oi od on vs k rest) → Q r { s with heap := h', toks := tk' }) : pcq.1 gz Lz hz := by
  obtain ⟨f1, f2, f3, f4, f5⟩ := H
  dsimp only [led49, fn49, in49, obj49, stmtsOf, defBody, defParams, defScope, sParts, List.getElem?_cons_succ, List.getElem?_cons_zero, Option.getD_some] at N hret
  intro FGz Fz Nz Bz Xz Tz Cz Dz
  walk_at "STEPS"
  all_goals (first | (with_reducible show Pre _) | refine ret_int (x := undig n.toNat (part ns lo.toNat hi.toNat)) ?_ (hret _ _ _ _ (by k_asm) (by k_asm) ⟨⟨_, rfl⟩, rfl⟩))
  have e1 : hi.toNat = lo.toNat + 1 := by omega
  unfold Pre
  rw [e1, part_one (by omega)]
  simp only [undig, Int.mul_zero, Int.add_zero]
theorem coreq : Pq w p loose mean mg mb d lo hi n tl th tn f c' D ci cd cn qual doc pm ctv oc oi od on ws t vs ns k rest dp un gd cn' cs a' ccd cl outer A₀ base h₀ L m s Q E := by
  with_unfolding_all exact cutq.2 fun H hvs hlo hhi hlen hmax B F X N T hk hC1 hC2 hd hu hret => pcq.2 fun a b c => Classical.choose_spec exc (core2 H hvs hlo hhi hlen hmax B F X N T hk hC1 hC2 hd hu hret) ((a, b), c)
theorem allq (w : World) (p : Program) (loose : List Str) (mean : ExcName → Option Value) (mg : Str → Option Value) (mb : Str → Option Value) (d : Nat) (lo : Int) (hi : Int) (n : Int) (tl : Tok) (th : Tok) (tn : Tok) (f : Addr) (c' : Addr) (D : Addr) (ci : Addr) (cd : Addr) (cn : Addr) (qual : Str) (doc : Value) (pm : Value) (ctv : Value) (oc : Obj) (oi : Obj) (od : Obj) (on : Obj) (ws : Array Value) (t : Tok) (vs : List Value) (ns : List Int) (k : Nat) (rest : Led) (dp : Nat) (un : Nat) (gd : Option (List Code)) (cn' : Str) (cs : Scope) (a' : Addr) (ccd : Value) (cl : List (Str × Addr)) (outer : List Env) (A₀ : Around) (base : Heap) (h₀ : Heap) (L : Addr) (m : Str → Option Value) (s : Shared) (Q : Value → Shared → Prop) (E : Value → Shared → Prop) : Pq w p loose mean mg mb d lo hi n tl th tn f c' D ci cd cn qual doc pm ctv oc oi od on ws t vs ns k rest dp un gd cn' cs a' ccd cl outer A₀ base h₀ L m s Q E := by
  with_unfolding_all exact Classical.choose_spec exq coreq ((((((w, p), (loose, mean)), ((mg, mb), d)), (((lo, hi), n), ((tl, th), tn))), ((((f, c'), D), ((ci, cd), cn)), (((qual, doc), pm), ((ctv, oc), oi)))), (((((od, on), (ws, t)), ((vs, ns), k)), (((rest, dp), un), ((gd, cn'), cs))), ((((a', ccd), cl), ((outer, A₀), base)), (((h₀, L), m), ((s, Q), E)))))
end Ci49baseI
section
variable (w : World) (p : Program) (loose : List Str) (mean : ExcName → Option Value) (mg mb : Str → Option Value)
theorem i49_baseI {d : Nat} {lo hi n : Int} (tl th tn : Tok) {f c' D ci cd cn : Addr} {qual : Str} (doc pm ctv : Value) {oc oi od on : Obj} {ws : Array Value} {t : Tok} {vs : List Value} {ns : List Int} (k : Nat) {rest : Led}
    (H : Facts49 f D qual oc oi od on ws t n tn) (hvs : IntsAre vs ns) (hlo : 0 ≤ lo) (hhi : lo + 1 = hi) (hlen : hi ≤ ns.length) (hmax : (ns.length : Int) ≤ 2 ^ 15) {dp : Nat} {un : Nat} {gd : Option (List Code)} {cn' : Str} {cs : Scope} {a' : Addr} {ccd : Value} {cl : List (Str × Addr)} {outer : List Env} {A₀ : Around} {base : Heap} {h₀ : Heap} {L : Addr} {m : Str → Option Value} {s : Shared} {Q : Value → Shared → Prop} {E : Value → Shared → Prop}
    (B : Below A₀ base outer h₀) (F : Fr h₀ L s.heap m) (X : (hd.heap_39 w.params).In h₀) (N : News h₀ L s.heap (led49 w.params f c' D ci cd cn qual doc pm ctv oc oi od on vs k rest)) (T : Top p loose mean mg mb h₀) (hk : cs.kind = .function) (hC1 : CodeHd h₀ 41 37) (hC2 : CodeHd h₀ 48 44) (hd : dp + (d + 1) < recursionLimit) (hu : un + (8 * d + 8) < cLine) (hret : ∀ r news' h' tk', Fr h₀ L h' m → News h₀ L h' news' → ((∃ tr, r = .int (undig n.toNat (part ns lo.toNat hi.toNat)) tr) ∧ news' = led49 w.params f c' D ci cd cn qual doc pm ctv oc oi od on vs k rest) → Q r { s with heap := h', toks := tk' }) :
    wpAny (model PySem.Challenge.pw_sr0065_01 w) (ktrTop dp un gd cn' cs L a' ccd cl outer) (call (.ref f) [.int lo tl, .int hi th]) Q E s :=
  Ci49baseI.allq w p loose mean mg mb d lo hi n tl th tn f c' D ci cd cn qual doc pm ctv oc oi od on ws t vs ns k rest dp un gd cn' cs a' ccd cl outer A₀ base h₀ L m s Q E H hvs hlo hhi hlen hmax B F X N T hk hC1 hC2 hd hu hret
theorem i49_base {d : Nat} {lo hi n : Int} (tl th tn : Tok) {f c' D ci cd cn : Addr} {qual : Str} (doc pm ctv : Value) {oc oi od on : Obj} {ws : Array Value} {t : Tok} {vs : List Value} {ns : List Int} (k : Nat) {rest : Led}
    (H : Facts49 f D qual oc oi od on ws t n tn) (hvs : IntsAre vs ns) (hlo : 0 ≤ lo) (hhi : lo + 1 = hi) (hlen : hi ≤ ns.length) (hmax : (ns.length : Int) ≤ 2 ^ 15) :
    CallOkC w p loose mean mg mb f [.int lo tl, .int hi th] (d + 1) (8 * d + 8) (led49 w.params f c' D ci cd cn qual doc pm ctv oc oi od on vs k rest)
      fun r news' => (∃ tr, r = .int (undig n.toNat (part ns lo.toNat hi.toNat)) tr) ∧ news' = led49 w.params f c' D ci cd cn qual doc pm ctv oc oi od on vs k rest := by
  unfold CallOkC
  intro dp un gd cn' cs a' ccd cl outer A₀ base h₀ L m s Q E B F X N T hk hC1 hC2 hd hu hret
  exact i49_baseI w p loose mean mg mb (d := d) (lo := lo) (hi := hi) (n := n) tl th tn (f := f) (c' := c') (D := D) (ci := ci) (cd := cd) (cn := cn) (qual := qual) doc pm ctv (oc := oc) (oi := oi) (od := od) (on := on) (ws := ws) (t := t) (vs := vs) (ns := ns) k (rest := rest) H hvs hlo hhi hlen hmax B F X N T hk hC1 hC2 hd hu hret
end
namespace Ci49stepI
noncomputable def Pq (w : World) (p : Program) (loose : List Str) (mean : ExcName → Option Value) (mg : Str → Option Value) (mb : Str → Option Value) (d : Nat) (lo : Int) (hi : Int) (n : Int) (tl : Tok) (th : Tok) (tn : Tok) (f : Addr) (c' : Addr) (D : Addr) (ci : Addr) (cd : Addr) (cn : Addr) (qual : Str) (doc : Value) (pm : Value) (ctv : Value) (oc : Obj) (oi : Obj) (od : Obj) (on : Obj) (ws : Array Value) (t : Tok) (vs : List Value) (ns : List Int) (k : Nat) (rest : Led) (dp : Nat) (un : Nat) (gd : Option (List Code)) (cn' : Str) (cs : Scope) (a' : Addr) (ccd : Value) (cl : List (Str × Addr)) (outer : List Env) (A₀ : Around) (base : Heap) (h₀ : Heap) (L : Addr) (m : Str → Option Value) (s : Shared) (Q : Value → Shared → Prop) (E : Value → Shared → Prop) : Prop := ∀ (IH : I49 w p loose mean mg mb d) (H : Facts49 f D qual oc oi od on ws t n tn) (hvs : IntsAre vs ns) (hlo : 0 ≤ lo) (hhi : lo + 1 < hi) (hd2 : hi - lo ≤ 2 ^ (d + 1)) (hlen : hi ≤ ns.length) (hmax : (ns.length : Int) ≤ 2 ^ 15) (hn : 0 < n) (hns : n * (hi - lo) ≤ 2 ^ 26) (hdig : AreDigits n.toNat ns) (B : Below A₀ base outer h₀) (F : Fr h₀ L s.heap m) (X : (hd.heap_39 w.params).In h₀) (N : News h₀ L s.heap (led49 w.params f c' D ci cd cn qual doc pm ctv oc oi od on vs k rest)) (T : Top p loose mean mg mb h₀) (hk : cs.kind = .function) (hC1 : CodeHd h₀ 41 37) (hC2 : CodeHd h₀ 48 44) (hd : dp + (d + 1 + 1) < recursionLimit) (hu : un + (8 * (d + 1) + 8) < cLine) (hret : ∀ r news' h' tk', Fr h₀ L h' m → News h₀ L h' news' → ((∃ tr, r = .int (undig n.toNat (part ns lo.toNat hi.toNat)) tr) ∧ news' = led49 w.params f c' D ci cd cn qual doc pm ctv oc oi od on vs k rest) → Q r { s with heap := h', toks := tk' }),
    wpAny (model PySem.Challenge.pw_sr0065_01 w) (ktrTop dp un gd cn' cs L a' ccd cl outer) (call (.ref f) [.int lo tl, .int hi th]) Q E s
noncomputable abbrev Tq : Type := ((((((World × Program) × ((List Str) × (ExcName → Option Value))) × (((Str → Option Value) × (Str → Option Value)) × Nat)) × (((Int × Int) × Int) × ((Tok × Tok) × Tok))) × ((((Addr × Addr) × Addr) × ((Addr × Addr) × Addr)) × (((Str × Value) × Value) × ((Value × Obj) × Obj)))) × (((((Obj × Obj) × ((Array Value) × Tok)) × (((List Value) × (List Int)) × Nat)) × (((Led × Nat) × Nat) × (((Option (List Code)) × Str) × Scope))) × ((((Addr × Value) × (List (Str × Addr))) × (((List Env) × Around) × Heap)) × (((Heap × Addr) × (Str → Option Value)) × ((Shared × (Value → Shared → Prop)) × (Value → Shared → Prop))))))
theorem exq : ∃ t : Tq, Pq t.1.1.1.1.1.1 t.1.1.1.1.1.2 t.1.1.1.1.2.1 t.1.1.1.1.2.2 t.1.1.1.2.1.1 t.1.1.1.2.1.2 t.1.1.1.2.2 t.1.1.2.1.1.1 t.1.1.2.1.1.2 t.1.1.2.1.2 t.1.1.2.2.1.1 t.1.1.2.2.1.2 t.1.1.2.2.2 t.1.2.1.1.1.1 t.1.2.1.1.1.2 t.1.2.1.1.2 t.1.2.1.2.1.1 t.1.2.1.2.1.2 t.1.2.1.2.2 t.1.2.2.1.1.1 t.1.2.2.1.1.2 t.1.2.2.1.2 t.1.2.2.2.1.1 t.1.2.2.2.1.2 t.1.2.2.2.2 t.2.1.1.1.1.1 t.2.1.1.1.1.2 t.2.1.1.1.2.1 t.2.1.1.1.2.2 t.2.1.1.2.1.1 t.2.1.1.2.1.2 t.2.1.1.2.2 t.2.1.2.1.1.1 t.2.1.2.1.1.2 t.2.1.2.1.2 t.2.1.2.2.1.1 t.2.1.2.2.1.2 t.2.1.2.2.2 t.2.2.1.1.1.1 t.2.2.1.1.1.2 t.2.2.1.1.2 t.2.2.1.2.1.1 t.2.2.1.2.1.2 t.2.2.1.2.2 t.2.2.2.1.1.1 t.2.2.2.1.1.2 t.2.2.2.1.2 t.2.2.2.2.1.1 t.2.2.2.2.1.2 t.2.2.2.2.2 → ∀ t : Tq, Pq t.1.1.1.1.1.1 t.1.1.1.1.1.2 t.1.1.1.1.2.1 t.1.1.1.1.2.2 t.1.1.1.2.1.1 t.1.1.1.2.1.2 t.1.1.1.2.2 t.1.1.2.1.1.1 t.1.1.2.1.1.2 t.1.1.2.1.2 t.1.1.2.2.1.1 t.1.1.2.2.1.2 t.1.1.2.2.2 t.1.2.1.1.1.1 t.1.2.1.1.1.2 t.1.2.1.1.2 t.1.2.1.2.1.1 t.1.2.1.2.1.2 t.1.2.1.2.2 t.1.2.2.1.1.1 t.1.2.2.1.1.2 t.1.2.2.1.2 t.1.2.2.2.1.1 t.1.2.2.2.1.2 t.1.2.2.2.2 t.2.1.1.1.1.1 t.2.1.1.1.1.2 t.2.1.1.1.2.1 t.2.1.1.1.2.2 t.2.1.1.2.1.1 t.2.1.1.2.1.2 t.2.1.1.2.2 t.2.1.2.1.1.1 t.2.1.2.1.1.2 t.2.1.2.1.2 t.2.1.2.2.1.1 t.2.1.2.2.1.2 t.2.1.2.2.2 t.2.2.1.1.1.1 t.2.2.1.1.1.2 t.2.2.1.1.2 t.2.2.1.2.1.1 t.2.2.1.2.1.2 t.2.2.1.2.2 t.2.2.2.1.1.1 t.2.2.2.1.1.2 t.2.2.2.1.2 t.2.2.2.2.1.1 t.2.2.2.2.1.2 t.2.2.2.2.2 := dk (α := Tq) (((((((aWorld 0, default), (default, (fun _ => default))), (((fun _ => default), (fun _ => default)), default)), (((default, default), default), ((default, default), default))), ((((default, default), default), ((default, default), default)), (((default, default), default), ((default, default), default)))), (((((default, default), (default, default)), ((default, default), default)), (((default, default), default), ((default, default), default))), ((((default, default), default), ((default, ({} : Around)), default)), (((default, default), (fun _ => default)), ((({} : Shared), (fun _ _ => True)), (fun _ _ => True))))))) _
noncomputable def cq : Tq := Classical.choose exq
@[irreducible] noncomputable def w : World := cq.1.1.1.1.1.1
@[irreducible] noncomputable def p : Program := cq.1.1.1.1.1.2
@[irreducible] noncomputable def loose : List Str := cq.1.1.1.1.2.1
@[irreducible] noncomputable def mean : ExcName → Option Value := cq.1.1.1.1.2.2
@[irreducible] noncomputable def mg : Str → Option Value := cq.1.1.1.2.1.1
@[irreducible] noncomputable def mb : Str → Option Value := cq.1.1.1.2.1.2
@[irreducible] noncomputable def d : Nat := cq.1.1.1.2.2
@[irreducible] noncomputable def lo : Int := cq.1.1.2.1.1.1
@[irreducible] noncomputable def hi : Int := cq.1.1.2.1.1.2
@[irreducible] noncomputable def n : Int := cq.1.1.2.1.2
@[irreducible] noncomputable def tl : Tok := cq.1.1.2.2.1.1
@[irreducible] noncomputable def th : Tok := cq.1.1.2.2.1.2
@[irreducible] noncomputable def tn : Tok := cq.1.1.2.2.2
@[irreducible] noncomputable def f : Addr := cq.1.2.1.1.1.1
@[irreducible] noncomputable def c' : Addr := cq.1.2.1.1.1.2
@[irreducible] noncomputable def D : Addr := cq.1.2.1.1.2
@[irreducible] noncomputable def ci : Addr := cq.1.2.1.2.1.1
@[irreducible] noncomputable def cd : Addr := cq.1.2.1.2.1.2
@[irreducible] noncomputable def cn : Addr := cq.1.2.1.2.2
@[irreducible] noncomputable def qual : Str := cq.1.2.2.1.1.1
@[irreducible] noncomputable def doc : Value := cq.1.2.2.1.1.2
@[irreducible] noncomputable def pm : Value := cq.1.2.2.1.2
@[irreducible] noncomputable def ctv : Value := cq.1.2.2.2.1.1
@[irreducible] noncomputable def oc : Obj := cq.1.2.2.2.1.2
@[irreducible] noncomputable def oi : Obj := cq.1.2.2.2.2
@[irreducible] noncomputable def od : Obj := cq.2.1.1.1.1.1
@[irreducible] noncomputable def on : Obj := cq.2.1.1.1.1.2
@[irreducible] noncomputable def ws : Array Value := cq.2.1.1.1.2.1
@[irreducible] noncomputable def t : Tok := cq.2.1.1.1.2.2
@[irreducible] noncomputable def vs : List Value := cq.2.1.1.2.1.1
@[irreducible] noncomputable def ns : List Int := cq.2.1.1.2.1.2
@[irreducible] noncomputable def k : Nat := cq.2.1.1.2.2
@[irreducible] noncomputable def rest : Led := cq.2.1.2.1.1.1
@[irreducible] noncomputable def dp : Nat := cq.2.1.2.1.1.2
@[irreducible] noncomputable def un : Nat := cq.2.1.2.1.2
@[irreducible] noncomputable def gd : Option (List Code) := cq.2.1.2.2.1.1
@[irreducible] noncomputable def cn' : Str := cq.2.1.2.2.1.2
@[irreducible] noncomputable def cs : Scope := cq.2.1.2.2.2
@[irreducible] noncomputable def a' : Addr := cq.2.2.1.1.1.1
@[irreducible] noncomputable def ccd : Value := cq.2.2.1.1.1.2
@[irreducible] noncomputable def cl : List (Str × Addr) := cq.2.2.1.1.2
@[irreducible] noncomputable def outer : List Env := cq.2.2.1.2.1.1
@[irreducible] noncomputable def A₀ : Around := cq.2.2.1.2.1.2
@[irreducible] noncomputable def base : Heap := cq.2.2.1.2.2
@[irreducible] noncomputable def h₀ : Heap := cq.2.2.2.1.1.1
@[irreducible] noncomputable def L : Addr := cq.2.2.2.1.1.2
@[irreducible] noncomputable def m : Str → Option Value := cq.2.2.2.1.2
@[irreducible] noncomputable def s : Shared := cq.2.2.2.2.1.1
@[irreducible] noncomputable def Q : Value → Shared → Prop := cq.2.2.2.2.1.2
@[irreducible] noncomputable def E : Value → Shared → Prop := cq.2.2.2.2.2
noncomputable def cutq : {G : Prop // (∀ (IH : I49 w p loose mean mg mb d) (H : Facts49 f D qual oc oi od on ws t n tn) (hvs : IntsAre vs ns) (hlo : 0 ≤ lo) (hhi : lo + 1 < hi) (hd2 : hi - lo ≤ 2 ^ (d + 1)) (hlen : hi ≤ ns.length) (hmax : (ns.length : Int) ≤ 2 ^ 15) (hn : 0 < n) (hns : n * (hi - lo) ≤ 2 ^ 26) (hdig : AreDigits n.toNat ns) (B : Below A₀ base outer h₀) (F : Fr h₀ L s.heap m) (X : (hd.heap_39 w.params).In h₀) (N : News h₀ L s.heap (led49 w.params f c' D ci cd cn qual doc pm ctv oc oi od on vs k rest)) (T : Top p loose mean mg mb h₀) (hk : cs.kind = .function) (hC1 : CodeHd h₀ 41 37) (hC2 : CodeHd h₀ 48 44) (hd : dp + (d + 1 + 1) < recursionLimit) (hu : un + (8 * (d + 1) + 8) < cLine) (hret : ∀ r news' h' tk', Fr h₀ L h' m → News h₀ L h' news' → ((∃ tr, r = .int (undig n.toNat (part ns lo.toNat hi.toNat)) tr) ∧ news' = led49 w.params f c' D ci cd cn qual doc pm ctv oc oi od on vs k rest) → Q r { s with heap := h', toks := tk' }), G) → Pq w p loose mean mg mb d lo hi n tl th tn f c' D ci cd cn qual doc pm ctv oc oi od on ws t vs ns k rest dp un gd cn' cs a' ccd cl outer A₀ base h₀ L m s Q E} := ⟨_, fun h9z => by
  unfold Pq
  intro IH H hvs hlo hhi hd2 hlen hmax hn hns hdig B F X N T hk hC1 hC2 hd hu hret
  have h9y := fun (_ : Unit) => h9z IH H hvs hlo hhi hd2 hlen hmax hn hns hdig B F X N T hk hC1 hC2 hd hu hret
  have H' := H
  obtain ⟨f1, f2, f3, f4, f5⟩ := H'
  dsimp only [led49, fn49, in49, obj49, stmtsOf, defBody, defParams, defScope, sParts, List.getElem?_cons_succ, List.getElem?_cons_zero, Option.getD_some] at N hret
  obtain ⟨hm1, hm2, hm3, hm4⟩ := mid_facts hhi hd2
  generalize hM : (lo + hi) / 2 = M at hm1 hm2 hm3 hm4
  have hp1 : (part ns M.toNat hi.toNat).length = (hi - M).toNat := by rw [part_len (by omega) (by omega)]; omega
  have hp0 : (part ns lo.toNat M.toNat).length = (M - lo).toNat := by rw [part_len (by omega) (by omega)]; omega
  have hb1 := undig_bound (part_digits (lo := M.toNat) (hi := hi.toNat) hdig)
  rw [hp1] at hb1
  obtain ⟨e1, _, _, _, e5, e6, e7⟩ := half_dig (x := 0) (Int.le_refl 0) hm1 hm2 hn hns (pow_pos' _)
  have hbits := lt_pow_bits hb1.1 hb1.2
  have h6 : ((n.toNat * (hi - M).toNat : Nat) : Int) = n * (hi - M) := by
    rw [Int.natCast_mul, Int.toNat_of_nonneg (by omega), Int.toNat_of_nonneg (by omega)]
  rw [h6] at hbits
  have hmc := Int.mul_comm (M - lo) n
  have hmul := mulOk_small (x := M - lo) (y := n) (by omega) (by omega)
  have b0 := Int.le_trans hlo (Int.le_of_lt hm1)
  have bM := Int.le_of_lt (Int.lt_of_lt_of_le hm2 hlen)
  have e5' := pw26 e5
  have e6' := pw26 e6
  have hmax' := pw15 hmax
  have e8 := Int.add_le_add (Int.le_trans hbits e6') (Int.le_trans (Int.le_of_eq hmc) e5')
  refine wpAny_call ?_
  (k_dflt (refine' code_nest ?k1u6 ?k2u6 ?k3u6 ?k4u6 ?k5u6 ?kAu6 ?kFu6 ?kKu6 ?k6u6 ?k7u6 ?k8u6 ?k9u6 ?kBu6 ?_ ?c2u6 ?c3u6 ?c4u6 ?c5u6; (case kAu6 => exact rfl); (case kFu6 => exact rfl); (case kKu6 => assumption); (case k1u6 | k2u6 | k3u6 | k4u6 | k5u6 => k_asm); (case k6u6 => k_mem); (case k7u6 => exact codeRec_news (by k_asm) (by k_mem) (by assumption) (by assumption)); (case k8u6 => ktr_room); (case k9u6 => exact BindsTo.of_eq rfl); (case c5u6 => decide); (case kBu6 => exact locs rfl); (case c2u6 => exact rfl); (case c3u6 => exact rfl); (case c4u6 => exact rfl); k_whole; intro gz Lz hz FGz Fz Nz Bz Xz Tz; (have Cz := CodeHd.keeps (c := 41) (P := 37) (by assumption) (Fr.keep FGz)); (have Dz := CodeHd.keeps (c := 48) (P := 44) (by assumption) (Fr.keep FGz)); (try dsimp only); (try k_fold)))
  revert Dz
  revert Cz
  revert Tz
  revert Xz
  revert Bz
  revert Nz
  revert Fz
  revert FGz
  revert hz
  revert Lz
  revert gz
  exact h9y ()⟩
noncomputable def pcq : {Pc : Heap → Addr → Heap → Prop // (∀ a b c, Pc a b c) → cutq.1} := ⟨_, fun h => h⟩
theorem exc : ∃ t : ((Heap × Addr) × Heap), pcq.1 t.1.1 t.1.2 t.2 → ∀ t : ((Heap × Addr) × Heap), pcq.1 t.1.1 t.1.2 t.2 := dk (α := ((Heap × Addr) × Heap)) ((default, default), default) _
noncomputable def ccq : ((Heap × Addr) × Heap) := Classical.choose exc
@[irreducible] noncomputable def gz : Heap := ccq.1.1
@[irreducible] noncomputable def Lz : Addr := ccq.1.2
@[irreducible] noncomputable def hz : Heap := ccq.2
theorem core2 (IH : I49 w p loose mean mg mb d) (H : Facts49 f D qual oc oi od on ws t n tn) (hvs : IntsAre vs ns) (hlo : 0 ≤ lo) (hhi : lo + 1 < hi) (hd2 : hi - lo ≤ 2 ^ (d + 1)) (hlen : hi ≤ ns.length) (hmax : (ns.length : Int) ≤ 2 ^ 15) (hn : 0 < n) (hns : n * (hi - lo) ≤ 2 ^ 26) (hdig : AreDigits n.toNat ns) (B : Below A₀ base outer h₀) (F : Fr h₀ L s.heap m) (X : (hd.heap_39 w.params).In h₀) (N : News h₀ L s.heap (led49 w.params f c' D ci cd cn qual doc pm ctv oc oi od on vs k rest)) (T : Top p loose mean mg mb h₀) (hk : cs.kind = .function) (hC1 : CodeHd h₀ 41 37) (hC2 : CodeHd h₀ 48 44) (hd : dp + (d + 1 + 1) < recursionLimit) (hu : un + (8 * (d + 1) + 8) < cLine) (hret : ∀ r news' h' tk', Fr h₀ L h' m → News h₀ L h' news' → ((∃ tr, r = .int (undig n.toNat (part ns lo.toNat hi.toNat)) tr) ∧ news' = led49 w.params f c' D ci cd cn qual doc pm ctv oc oi od on vs k rest) → Q r { s with heap := h', toks := tk' }) : pcq.1 gz Lz hz := by
  have H' := H
  obtain ⟨f1, f2, f3, f4, f5⟩ := H'
  dsimp only [led49, fn49, in49, obj49, stmtsOf, defBody, defParams, defScope, sParts, List.getElem?_cons_succ, List.getElem?_cons_zero, Option.getD_some] at N hret
  obtain ⟨hm1, hm2, hm3, hm4⟩ := mid_facts hhi hd2
  generalize hM : (lo + hi) / 2 = M at hm1 hm2 hm3 hm4
  have hp1 : (part ns M.toNat hi.toNat).length = (hi - M).toNat := by rw [part_len (by omega) (by omega)]; omega
  have hp0 : (part ns lo.toNat M.toNat).length = (M - lo).toNat := by rw [part_len (by omega) (by omega)]; omega
  have hb1 := undig_bound (part_digits (lo := M.toNat) (hi := hi.toNat) hdig)
  rw [hp1] at hb1
  obtain ⟨e1, _, _, _, e5, e6, e7⟩ := half_dig (x := 0) (Int.le_refl 0) hm1 hm2 hn hns (pow_pos' _)
  have hbits := lt_pow_bits hb1.1 hb1.2
  have h6 : ((n.toNat * (hi - M).toNat : Nat) : Int) = n * (hi - M) := by
    rw [Int.natCast_mul, Int.toNat_of_nonneg (by omega), Int.toNat_of_nonneg (by omega)]
  rw [h6] at hbits
  have hmc := Int.mul_comm (M - lo) n
  have hmul := mulOk_small (x := M - lo) (y := n) (by omega) (by omega)
  have b0 := Int.le_trans hlo (Int.le_of_lt hm1)
  have bM := Int.le_of_lt (Int.lt_of_lt_of_le hm2 hlen)
  have e5' := pw26 e5
  have e6' := pw26 e6
  have hmax' := pw15 hmax
  have e8 := Int.add_le_add (Int.le_trans hbits e6') (Int.le_trans (Int.le_of_eq hmc) e5')
  intro FGz Fz Nz Bz Xz Tz Cz Dz
  walk_at "STEPS"
  all_goals (try ((k_here; (with_reducible rename I49 _ _ _ _ _ _ _ => h3q17); k_dflt (refine' CallOkC.use (h3q17 _ _ _ _ _ _ _ _ _ _ _ _ _ _ _ _ _ _ _ _ _ _ _ _ _ _ ?hfq17 ?hvq17 ?preq17) ?k1q17 ?k2q17 ?k3q17 ?k4q17 ?k4sq17 ?k5q17 ?k6q17 ?kc1q17 ?kc2q17 ?k7q17 ?k8q17 ?_); (((((case k1q17 | k2q17 | k3q17 | k4q17 | k5q17 => k_asm); (case k6q17 => first | exact rfl | assumption); (case k7q17 => ktr_room); (case k8q17 => ktr_units))); (case kc1q17 | kc2q17 => assumption))); (case k4sq17 => (intro pq17 hpq17; exact hpq17)); (case hfq17 | hvq17 => assumption); rotate_left; (intro r9q17 n9q17 h9q17 tk9q17 F9q17 N9q17 hO9q17; obtain ⟨⟨tr9q17, e9q17⟩, e99q17⟩ := hO9q17; subst e9q17 e99q17; (try dsimp only); (try k_fold)))))
  all_goals (try walk_at "STEPS")
  all_goals (try ((k_here; (with_reducible rename I49 _ _ _ _ _ _ _ => h3q18); k_dflt (refine' CallOkC.use (h3q18 _ _ _ _ _ _ _ _ _ _ _ _ _ _ _ _ _ _ _ _ _ _ _ _ _ _ ?hfq18 ?hvq18 ?preq18) ?k1q18 ?k2q18 ?k3q18 ?k4q18 ?k4sq18 ?k5q18 ?k6q18 ?kc1q18 ?kc2q18 ?k7q18 ?k8q18 ?_); (((((case k1q18 | k2q18 | k3q18 | k4q18 | k5q18 => k_asm); (case k6q18 => first | exact rfl | assumption); (case k7q18 => ktr_room); (case k8q18 => ktr_units))); (case kc1q18 | kc2q18 => assumption))); (case k4sq18 => (intro pq18 hpq18; exact hpq18)); (case hfq18 | hvq18 => assumption); rotate_left; (intro r9q18 n9q18 h9q18 tk9q18 F9q18 N9q18 hO9q18; obtain ⟨⟨tr9q18, e9q18⟩, e99q18⟩ := hO9q18; subst e9q18 e99q18; (try dsimp only); (try k_fold)))))
  all_goals (try walk_at "STEPS")
  all_goals (first | (with_reducible show Pre _) | refine ret_int (x := undig n.toNat (part ns lo.toNat hi.toNat)) ?_ (hret _ _ _ _ (by k_asm) (by k_asm) ⟨⟨_, rfl⟩, rfl⟩))
  all_goals (try simp only [Int.reduceToNat, Int.reducePow, hM, e1])
  all_goals (try unfold Pre)
  all_goals (first | exact hmul | exact e7 | exact e8 | exact ⟨hlo, hm1, hm3, bM, hmax', hn, e5', hdig⟩ | exact ⟨b0, hm2, hm4, hlen, hmax', hn, e6', hdig⟩ | omega | (refine ⟨?_, ?_, ?_, ?_, ?_, ?_, ?_, ?_⟩ <;> first | assumption | omega) | skip)
  all_goals (rw [part_split (ns := ns) (show lo.toNat ≤ M.toNat by omega) (show M.toNat ≤ hi.toNat by omega), undig_append, hp0, Int.mul_comm, Int.add_comm])
theorem coreq : Pq w p loose mean mg mb d lo hi n tl th tn f c' D ci cd cn qual doc pm ctv oc oi od on ws t vs ns k rest dp un gd cn' cs a' ccd cl outer A₀ base h₀ L m s Q E := by
  with_unfolding_all exact cutq.2 fun IH H hvs hlo hhi hd2 hlen hmax hn hns hdig B F X N T hk hC1 hC2 hd hu hret => pcq.2 fun a b c => Classical.choose_spec exc (core2 IH H hvs hlo hhi hd2 hlen hmax hn hns hdig B F X N T hk hC1 hC2 hd hu hret) ((a, b), c)
theorem allq (w : World) (p : Program) (loose : List Str) (mean : ExcName → Option Value) (mg : Str → Option Value) (mb : Str → Option Value) (d : Nat) (lo : Int) (hi : Int) (n : Int) (tl : Tok) (th : Tok) (tn : Tok) (f : Addr) (c' : Addr) (D : Addr) (ci : Addr) (cd : Addr) (cn : Addr) (qual : Str) (doc : Value) (pm : Value) (ctv : Value) (oc : Obj) (oi : Obj) (od : Obj) (on : Obj) (ws : Array Value) (t : Tok) (vs : List Value) (ns : List Int) (k : Nat) (rest : Led) (dp : Nat) (un : Nat) (gd : Option (List Code)) (cn' : Str) (cs : Scope) (a' : Addr) (ccd : Value) (cl : List (Str × Addr)) (outer : List Env) (A₀ : Around) (base : Heap) (h₀ : Heap) (L : Addr) (m : Str → Option Value) (s : Shared) (Q : Value → Shared → Prop) (E : Value → Shared → Prop) : Pq w p loose mean mg mb d lo hi n tl th tn f c' D ci cd cn qual doc pm ctv oc oi od on ws t vs ns k rest dp un gd cn' cs a' ccd cl outer A₀ base h₀ L m s Q E := by
  with_unfolding_all exact Classical.choose_spec exq coreq ((((((w, p), (loose, mean)), ((mg, mb), d)), (((lo, hi), n), ((tl, th), tn))), ((((f, c'), D), ((ci, cd), cn)), (((qual, doc), pm), ((ctv, oc), oi)))), (((((od, on), (ws, t)), ((vs, ns), k)), (((rest, dp), un), ((gd, cn'), cs))), ((((a', ccd), cl), ((outer, A₀), base)), (((h₀, L), m), ((s, Q), E)))))
end Ci49stepI
section
variable (w : World) (p : Program) (loose : List Str) (mean : ExcName → Option Value) (mg mb : Str → Option Value)
theorem i49_stepI {d : Nat} (IH : I49 w p loose mean mg mb d) {lo hi n : Int} (tl th tn : Tok) {f c' D ci cd cn : Addr} {qual : Str} (doc pm ctv : Value) {oc oi od on : Obj} {ws : Array Value} {t : Tok} {vs : List Value} {ns : List Int} (k : Nat) {rest : Led}
    (H : Facts49 f D qual oc oi od on ws t n tn) (hvs : IntsAre vs ns) (hlo : 0 ≤ lo) (hhi : lo + 1 < hi) (hd2 : hi - lo ≤ 2 ^ (d + 1)) (hlen : hi ≤ ns.length) (hmax : (ns.length : Int) ≤ 2 ^ 15) (hn : 0 < n) (hns : n * (hi - lo) ≤ 2 ^ 26) (hdig : AreDigits n.toNat ns) {dp : Nat} {un : Nat} {gd : Option (List Code)} {cn' : Str} {cs : Scope} {a' : Addr} {ccd : Value} {cl : List (Str × Addr)} {outer : List Env} {A₀ : Around} {base : Heap} {h₀ : Heap} {L : Addr} {m : Str → Option Value} {s : Shared} {Q : Value → Shared → Prop} {E : Value → Shared → Prop}
    (B : Below A₀ base outer h₀) (F : Fr h₀ L s.heap m) (X : (hd.heap_39 w.params).In h₀) (N : News h₀ L s.heap (led49 w.params f c' D ci cd cn qual doc pm ctv oc oi od on vs k rest)) (T : Top p loose mean mg mb h₀) (hk : cs.kind = .function) (hC1 : CodeHd h₀ 41 37) (hC2 : CodeHd h₀ 48 44) (hd : dp + (d + 1 + 1) < recursionLimit) (hu : un + (8 * (d + 1) + 8) < cLine) (hret : ∀ r news' h' tk', Fr h₀ L h' m → News h₀ L h' news' → ((∃ tr, r = .int (undig n.toNat (part ns lo.toNat hi.toNat)) tr) ∧ news' = led49 w.params f c' D ci cd cn qual doc pm ctv oc oi od on vs k rest) → Q r { s with heap := h', toks := tk' }) :
    wpAny (model PySem.Challenge.pw_sr0065_01 w) (ktrTop dp un gd cn' cs L a' ccd cl outer) (call (.ref f) [.int lo tl, .int hi th]) Q E s :=
  Ci49stepI.allq w p loose mean mg mb d lo hi n tl th tn f c' D ci cd cn qual doc pm ctv oc oi od on ws t vs ns k rest dp un gd cn' cs a' ccd cl outer A₀ base h₀ L m s Q E IH H hvs hlo hhi hd2 hlen hmax hn hns hdig B F X N T hk hC1 hC2 hd hu hret
theorem i49_step {d : Nat} (IH : I49 w p loose mean mg mb d) {lo hi n : Int} (tl th tn : Tok) {f c' D ci cd cn : Addr} {qual : Str} (doc pm ctv : Value) {oc oi od on : Obj} {ws : Array Value} {t : Tok} {vs : List Value} {ns : List Int} (k : Nat) {rest : Led}
    (H : Facts49 f D qual oc oi od on ws t n tn) (hvs : IntsAre vs ns) (hlo : 0 ≤ lo) (hhi : lo + 1 < hi) (hd2 : hi - lo ≤ 2 ^ (d + 1)) (hlen : hi ≤ ns.length) (hmax : (ns.length : Int) ≤ 2 ^ 15) (hn : 0 < n) (hns : n * (hi - lo) ≤ 2 ^ 26) (hdig : AreDigits n.toNat ns) :
    CallOkC w p loose mean mg mb f [.int lo tl, .int hi th] (d + 1 + 1) (8 * (d + 1) + 8) (led49 w.params f c' D ci cd cn qual doc pm ctv oc oi od on vs k rest)
      fun r news' => (∃ tr, r = .int (undig n.toNat (part ns lo.toNat hi.toNat)) tr) ∧ news' = led49 w.params f c' D ci cd cn qual doc pm ctv oc oi od on vs k rest := by
  unfold CallOkC
  intro dp un gd cn' cs a' ccd cl outer A₀ base h₀ L m s Q E B F X N T hk hC1 hC2 hd hu hret
  exact i49_stepI w p loose mean mg mb (d := d) IH (lo := lo) (hi := hi) (n := n) tl th tn (f := f) (c' := c') (D := D) (ci := ci) (cd := cd) (cn := cn) (qual := qual) doc pm ctv (oc := oc) (oi := oi) (od := od) (on := on) (ws := ws) (t := t) (vs := vs) (ns := ns) k (rest := rest) H hvs hlo hhi hd2 hlen hmax hn hns hdig B F X N T hk hC1 hC2 hd hu hret
theorem i49_all : ∀ d, I49 w p loose mean mg mb d
  | 0 => by
    unfold I49
    intro lo hi n tl th tn f c' D ci cd cn qual doc pm ctv oc oi od on ws t vs ns k rest H hvs hO0
    obtain ⟨h2, h3, h4, h5, h6, h7, h8, h9⟩ := hO0
    exact i49_base w p loose mean mg mb tl th tn doc pm ctv k H hvs h2 (by omega) h5 h6
  | d + 1 => by
    have IH := i49_all d
    unfold I49
    intro lo hi n tl th tn f c' D ci cd cn qual doc pm ctv oc oi od on ws t vs ns k rest H hvs hO0
    obtain ⟨h2, h3, h4, h5, h6, h7, h8, h9⟩ := hO0
    by_cases hb : lo + 1 = hi
    · exact i49_base w p loose mean mg mb tl th tn doc pm ctv k H hvs h2 hb h5 h6
    · exact i49_step w p loose mean mg mb IH tl th tn doc pm ctv k H hvs h2 (by omega) h4 h5 h6 h7 h8 h9
end
-- C8
theorem fresh_C8 : True := by
  w_top off
  exact trivial
section
variable {w : World} {p : Program} {loose : List Str} {mean : ExcName → Option Value} {mg mb : Str → Option Value}
theorem use49 {d : Nat} (I : I49 w p loose mean mg mb d) {lo hi n : Int} {tl th tn : Tok} {f c' D ci cd cn : Addr} {qual : Str} {doc pm ctv : Value} {oc oi od on : Obj} {ws : Array Value} {t : Tok} {vs : List Value} {ns : List Int} {k : Nat} {news₀ : Led}
    {dp un : Nat} {gd : Option (List Code)} {cn' : Str} {cs : Scope} {a : Addr} {ccd : Value} {cl : List (Str × Addr)} {outer : List Env} {A₀ : Around} {base h₀ : Heap} {L : Addr} {m : Str → Option Value} {s : Shared} {Q E : Value → Shared → Prop}
    (B : Below A₀ base outer h₀) (F : Fr h₀ L s.heap m) (X : (hd.heap_39 w.params).In h₀) (N : News h₀ L s.heap news₀) (T : Top p loose mean mg mb h₀) (hk : cs.kind = .function) (hC1 : CodeHd h₀ 41 37) (hC2 : CodeHd h₀ 48 44)
    (h1 : dp + (d + 1) < recursionLimit) (h2 : un + (8 * d + 8) < cLine)
    (mf : (f, fn49 w.params qual cn ci cd doc pm c' ctv) ∈ news₀) (mcd : (cd, od) ∈ news₀) (dd : od.data = .cell (some (.ref D))) (mD : (D, listOf vs.toArray k) ∈ news₀) (mci : (ci, oi) ∈ news₀) (mcn : (cn, on) ∈ news₀) (mc : (c', oc) ∈ news₀)
    (di : oi.data = .cell (some (.ref f))) (dn : on.data = .cell (some (.int n tn))) (dc : oc.data = .fields ws) (dq : ws[1]? = some (.str qual t)) (hi' : IntsAre vs ns)
    (pre : Pre (0 ≤ lo ∧ lo < hi ∧ hi - lo ≤ 2 ^ d ∧ hi ≤ ns.length ∧ (ns.length : Int) ≤ 2 ^ 15 ∧ 0 < n ∧ n * (hi - lo) ≤ 2 ^ 26 ∧ AreDigits n.toNat ns))
    (ret : ∀ tr h' tk', Fr h₀ L h' m → News h₀ L h' news₀ → Q (.int (undig n.toNat (part ns lo.toNat hi.toNat)) tr) { s with heap := h', toks := tk' }) :
    wpAny (model PySem.Challenge.pw_sr0065_01 w) (ktrTop dp un gd cn' cs L a ccd cl outer) (call (.ref f) [.int lo tl, .int hi th]) Q E s := by
  refine CallOkC.use (I lo hi n tl th tn f c' D ci cd cn qual doc pm ctv oc oi od on ws t vs ns k news₀ ⟨dc, dq, di, dd, dn⟩ hi' pre) B F X N ?_ T hk hC1 hC2 h1 h2 fun r news' h' tk' F' N' hO => ?_
  · exact List.forall_mem_cons.mpr ⟨mf, List.forall_mem_cons.mpr ⟨mc, List.forall_mem_cons.mpr ⟨mci, List.forall_mem_cons.mpr ⟨mcd, List.forall_mem_cons.mpr ⟨mcn, List.forall_mem_cons.mpr ⟨mD, fun _ h => h⟩⟩⟩⟩⟩⟩
  · obtain ⟨⟨tr, rfl⟩, rfl⟩ := hO
    exact ret tr h' tk' F' (cb_drop N' fun q hq => .tail _ (.tail _ (.tail _ (.tail _ (.tail _ (.tail _ hq))))))
end
/-- the answer of _digits2int: the number -/
noncomputable def Out49 (rest : Led) (x : Int) (v : Value) (news' : Led) : Prop := ∃ (t : Tok) (T' : Led), v = .int x t ∧ news' = T' ++ rest ∧ TabSt 44 50 4 qual49 T' rest
theorem nz_pos {n : Nat} (h : ¬ n = 0) : (0 : Int) < n := by omega
theorem d8 {n : Nat} (h : n ≤ 2 ^ 15) : (n : Int) ≤ 32768 := by omega
theorem ret49 {h₀ h' : Heap} {L c' : Addr} {m : Str → Option Value} {rest news' : Led} {s : Shared} {Q : Value → Shared → Prop} {x y : Int} {tr : Tok} {oc : Obj} {ws : Array Value} {t : Tok} {tk' : Nat}
    (hret : ∀ v news' h' tk', Fr h₀ L h' m → News h₀ L h' news' → Out49 rest x v news' → Q v { s with heap := h', toks := tk' })
    (F : Fr h₀ L h' m) (N : News h₀ L h' news') (mt : (44, tabObj #[rawInt 50, rawInt 4, .ref c']) ∈ news') (mc : (c', oc) ∈ news') (hr : ∀ q ∈ rest, q ∈ news')
    (dc : oc.data = .fields ws) (dq : ws[1]? = some (.str qual49 t)) (ht : ∀ q ∈ rest, q.1 ≠ 44) (hc : ∀ q ∈ rest, q.1 ≠ c') (ne : @Ne Nat c' 44) (e : Pre (y = x)) :
    Q (.int y tr) { s with heap := h', toks := tk' } := by
  have e' : y = x := e
  subst e'
  refine hret _ _ h' tk' F ?_ ⟨tr, [(44, tabObj #[rawInt 50, rawInt 4, .ref c']), (c', oc)], rfl, rfl, .made ht hc ne dc dq⟩
  exact fun q hq => N q ((List.forall_mem_cons (p := fun q => q ∈ news')).mpr ⟨mt, (List.forall_mem_cons (p := fun q => q ∈ news')).mpr ⟨mc, hr⟩⟩ q hq)
theorem ne_cons {D c : Addr} {o : Obj} {rest : Led} (h1 : @Ne Nat D c) (h2 : ∀ q ∈ rest, q.1 ≠ c) : ∀ q ∈ (D, o) :: rest, q.1 ≠ c := List.forall_mem_cons.mpr ⟨h1, h2⟩
local macro_rules | `(tactic| walk_at "NE") => `(tactic| first | assumption | exact lt_ne (by walk_at "LT") | (refine ne_cons ?_ ?_; (k_ne); walk_at "NE"))
local macro_rules | `(tactic| walk_at "RET49") => `(tactic| (k_dflt (refine' ret49 ?hret ?k1 ?k2 ?mt ?mc ?hr ?dc ?dq ?ht ?hc ?ne ?e); (case hret => assumption); (case k1 | k2 => k_asm); (case mt | mc => k_mem); (case hr => walk_at "SUB"); (case dc | dq => assumption); (case ht | hc => walk_at "NE"); (case ne => k_ne)))
section
variable (w : World) (p : Program) (loose : List Str) (mean : ExcName → Option Value) (mg mb : Str → Option Value)
theorem d2i_fresh (rest : Led) (n : Int) (Dg : Addr) (vs : List Value) (ns : List Int) (k : Nat) (tn : Tok) (hlt : ∀ q ∈ rest, q.1 ≠ 44) (hg : @Ne Nat Dg 44) (hvs : IntsAre vs ns) (hlen : ns.length ≤ 2 ^ 15) (hn : 0 < n) (hns : n * ns.length ≤ 2 ^ 26) (hdig : AreDigits n.toNat ns) :
   CallOkC w p loose mean mg mb 49 [.ref Dg, .int n tn] 18 200 ((44, tabObj #[]) :: (Dg, listOf vs.toArray k) :: rest) (Out49 ((Dg, listOf vs.toArray k) :: rest) (undig n.toNat ns)) := by
  unfold CallOkC
  intro dp un gd cn cs a' ccd cl outer A₀ base h₀ L m s Q E B F X N T hk hC1 hC2 hd hu hret
  refine wpAny_call ?_
  (k_dflt (refine' code_defC ?k1u13 ?k2u13 ?k3u13 ?k4u13 ?k5u13 ?kAu13 ?kFu13 ?kKu13 ?k6u13 ?k7u13 ?k8u13 ?k9u13 ?kBu13 ?kDu13 ?_ ?c2u13 ?c3u13 ?c4u13; (case kAu13 => exact rfl); (case kFu13 => exact rfl); (case kKu13 => assumption); (case k1u13 | k2u13 | k3u13 | k4u13 | k5u13 => k_asm); (case k6u13 => k_is); (case k7u13 => k_is); (case k8u13 => ktr_room); (case k9u13 => exact BindsTo.of_eq rfl); (case kBu13 => exact rfl); (case kDu13 => decide +kernel); (case c2u13 => exact rfl); (case c3u13 => exact rfl); (case c4u13 => exact rfl); k_whole; intro gz Lz hz tkz cz9 FGz Fz Nz Yz Bz Xz Tz l1z0; (have Cz := CodeHd.keeps (c := 41) (P := 37) (by assumption) (Fr.keep FGz)); (have Dz := CodeHd.keeps (c := 48) (P := 44) (by assumption) (Fr.keep FGz)); (have l2z0 := cells_lt l1z0); (simp only [AllLt, and_true] at l2z0); (try k_lt l1z0); k_cells Yz; (try simp only [List.cons_append, List.nil_append] at Nz); (try dsimp only); (try k_fold)))
  walk_at "STEPS"
  all_goals (try ((k_here; k_dflt (refine' use49 (i49_all _ _ _ _ _ _ 15) ?k1q19 ?k2q19 ?k3q19 ?k4q19 ?k5q19 ?k6q19 ?kc1q19 ?kc2q19 ?k7q19 ?k8q19 ?mfq19 ?mcdq19 ?ddq19 ?mDq19 ?mciq19 ?mcnq19 ?mcq19 ?diq19 ?dnq19 ?dcq19 ?dqq19 ?hiq19 ?preq19 ?_); (((((case k1q19 | k2q19 | k3q19 | k4q19 | k5q19 => k_asm); (case k6q19 => first | exact rfl | assumption); (case k7q19 => ktr_room); (case k8q19 => ktr_units))); (case kc1q19 | kc2q19 => assumption))); (case mfq19 | mcdq19 => k_mem); (case ddq19 => assumption); (case mDq19 | mciq19 | mcnq19 | mcq19 => k_mem); (case diq19 | dnq19 | dcq19 | dqq19 | hiq19 => assumption); rotate_left; (intro tr9q19 h9q19 tk9q19 F9q19 N9q19; (try dsimp only); (try k_fold)))))
  all_goals (try walk_at "STEPS")
  all_goals (first | (with_reducible show Pre _) | walk_at "RET49")
  all_goals (try simp only [Int.reduceToNat, Int.toNat_natCast, part_all, Int.sub_zero])
  all_goals (unfold Pre)
  all_goals (first | exact True.intro | rfl | omega | (refine ⟨by omega, by omega, by omega, by omega, by omega, hn, hns, hdig⟩) | (rw [List.length_eq_zero_iff.mp (show ns.length = 0 by omega)]; rfl))
theorem d2i_made (rest : Led) (n : Int) (Dg : Addr) (vs : List Value) (ns : List Int) (k : Nat) (tn : Tok) {c : Addr} {oc : Obj} {ws : Array Value} {t : Tok} (hlt : ∀ q ∈ rest, q.1 ≠ 44) (hcr : ∀ q ∈ rest, q.1 ≠ c) (hgc : @Ne Nat Dg c) (hc44 : @Ne Nat c 44) (dc : oc.data = .fields ws) (dq : ws[1]? = some (.str qual49 t))
    (hg : @Ne Nat Dg 44) (hvs : IntsAre vs ns) (hlen : ns.length ≤ 2 ^ 15) (hn : 0 < n) (hns : n * ns.length ≤ 2 ^ 26) (hdig : AreDigits n.toNat ns) :
   CallOkC w p loose mean mg mb 49 [.ref Dg, .int n tn] 18 200 ((44, tabObj #[rawInt 50, rawInt 4, .ref c]) :: (c, oc) :: (Dg, listOf vs.toArray k) :: rest) (Out49 ((Dg, listOf vs.toArray k) :: rest) (undig n.toNat ns)) := by
  unfold CallOkC
  intro dp un gd cn cs a' ccd cl outer A₀ base h₀ L m s Q E B F X N T hk hC1 hC2 hd hu hret
  refine wpAny_call ?_
  (k_dflt (refine' code_defC ?k1u14 ?k2u14 ?k3u14 ?k4u14 ?k5u14 ?kAu14 ?kFu14 ?kKu14 ?k6u14 ?k7u14 ?k8u14 ?k9u14 ?kBu14 ?kDu14 ?_ ?c2u14 ?c3u14 ?c4u14; (case kAu14 => exact rfl); (case kFu14 => exact rfl); (case kKu14 => assumption); (case k1u14 | k2u14 | k3u14 | k4u14 | k5u14 => k_asm); (case k6u14 => k_is); (case k7u14 => k_is); (case k8u14 => ktr_room); (case k9u14 => exact BindsTo.of_eq rfl); (case kBu14 => exact rfl); (case kDu14 => decide +kernel); (case c2u14 => exact rfl); (case c3u14 => exact rfl); (case c4u14 => exact rfl); k_whole; intro gz Lz hz tkz cz9 FGz Fz Nz Yz Bz Xz Tz l1z0; (have Cz := CodeHd.keeps (c := 41) (P := 37) (by assumption) (Fr.keep FGz)); (have Dz := CodeHd.keeps (c := 48) (P := 44) (by assumption) (Fr.keep FGz)); (have l2z0 := cells_lt l1z0); (simp only [AllLt, and_true] at l2z0); (try k_lt l1z0); k_cells Yz; (try simp only [List.cons_append, List.nil_append] at Nz); (try dsimp only); (try k_fold)))
  walk_at "STEPS"
  all_goals (try ((k_here; k_dflt (refine' use49 (i49_all _ _ _ _ _ _ 15) ?k1q20 ?k2q20 ?k3q20 ?k4q20 ?k5q20 ?k6q20 ?kc1q20 ?kc2q20 ?k7q20 ?k8q20 ?mfq20 ?mcdq20 ?ddq20 ?mDq20 ?mciq20 ?mcnq20 ?mcq20 ?diq20 ?dnq20 ?dcq20 ?dqq20 ?hiq20 ?preq20 ?_); (((((case k1q20 | k2q20 | k3q20 | k4q20 | k5q20 => k_asm); (case k6q20 => first | exact rfl | assumption); (case k7q20 => ktr_room); (case k8q20 => ktr_units))); (case kc1q20 | kc2q20 => assumption))); (case mfq20 | mcdq20 => k_mem); (case ddq20 => assumption); (case mDq20 | mciq20 | mcnq20 | mcq20 => k_mem); (case diq20 | dnq20 | dcq20 | dqq20 | hiq20 => assumption); rotate_left; (intro tr9q20 h9q20 tk9q20 F9q20 N9q20; (try dsimp only); (try k_fold)))))
  all_goals (try walk_at "STEPS")
  all_goals (first | (with_reducible show Pre _) | walk_at "RET49")
  all_goals (try simp only [Int.reduceToNat, Int.toNat_natCast, part_all, Int.sub_zero])
  all_goals (unfold Pre)
  all_goals (first | exact True.intro | rfl | omega | (refine ⟨by omega, by omega, by omega, by omega, by omega, hn, hns, hdig⟩) | (rw [List.length_eq_zero_iff.mp (show ns.length = 0 by omega)]; rfl))
theorem d2i_ok (T rest : Led) (n : Int) (Dg : Addr) (vs : List Value) (ns : List Int) (k : Nat) (tn : Tok) (hT : TabSt 44 50 4 qual49 T ((Dg, listOf vs.toArray k) :: rest)) (hvs : IntsAre vs ns) (hlen : ns.length ≤ 2 ^ 15) (hn : 0 < n) (hns : n * ns.length ≤ 2 ^ 26) (hdig : AreDigits n.toNat ns) :
   CallOkC w p loose mean mg mb 49 [.ref Dg, .int n tn] 18 200 (T ++ (Dg, listOf vs.toArray k) :: rest) (Out49 ((Dg, listOf vs.toArray k) :: rest) (undig n.toNat ns)) := by
  cases hT with
  | fresh h1 => exact d2i_fresh w p loose mean mg mb rest n Dg vs ns k tn (fun q hq => h1 q (.tail _ hq)) (h1 _ (.head _)) hvs hlen hn hns hdig
  | made h1 h2 h3 h4 h5 => exact d2i_made w p loose mean mg mb rest n Dg vs ns k tn (fun q hq => h1 q (.tail _ hq)) (fun q hq => h2 q (.tail _ hq)) (h2 _ (.head _)) h3 h4 h5 (h1 _ (.head _)) hvs hlen hn hns hdig
end
-- L1
section
open PyProof.V PySem.Spec
section
variable {prog : Program} {w : World} {A : Around} {E : Value → Shared → Prop} {s : Shared} {env : Env} {h₀ : Heap} {x : Str} {body : List Stmt} {Q : Flow → Shared → Prop}
/-- a turn's end -/
noncomputable def TurnOk {σ : Type} (h₀ : Heap) (L : Addr) (s : Shared) (I : Addr) (oI : Obj) (Lg : σ → Led) (ps : σ → List (Str × Value)) (stored : List Str) (m₀ : Str → Option Value) (Inv : σ → Prop) (s₂ : Shared) : Prop :=
  ∃ (c : σ) (h' : Heap) (tk : Nat) (m' : Str → Option Value) (news' : Led), s₂ = { s with heap := h', toks := tk } ∧ Fr h₀ L h' m' ∧ News h₀ L h' news' ∧ (I, oI) ∈ news' ∧ (∀ p ∈ Lg c, p ∈ news') ∧ (∀ p ∈ Lg c, p.1 ≠ I) ∧ (∀ p ∈ ps c, m' p.1 = some p.2) ∧
    (∀ z, (∀ p ∈ ps c, z ≠ p.1) → stored.contains z = false → m' z = m₀ z) ∧ Inv c
noncomputable def TurnP {σ : Type} (h₀ : Heap) (L : Addr) (s : Shared) (I : Addr) (oI : Obj) (Lg : σ → Led) (ps : σ → List (Str × Value)) (stored : List Str) (m₀ : Str → Option Value) (Inv : σ → Prop) (Q : Flow → Shared → Prop) (f : Flow) (s₂ : Shared) : Prop :=
  match f with
  | .ret v => Q (.ret v) s₂
  | .brk => Q .next s₂
  | _ => TurnOk h₀ L s I oI Lg ps stored m₀ Inv s₂
theorem TurnOk.intro {σ : Type} {L : Addr} {s : Shared} {I : Addr} {oI : Obj} {Lg : σ → Led} {ps : σ → List (Str × Value)} {stored : List Str} {m₀ m' : Str → Option Value} {Inv : σ → Prop} {h' : Heap} {tk : Nat} {news' : Led} (c : σ)
    (F : Fr h₀ L h' m') (N : News h₀ L h' news') (hI : (I, oI) ∈ news') (hn : ∀ p ∈ Lg c, p ∈ news') (hd : ∀ p ∈ Lg c, p.1 ≠ I) (hk : ∀ p ∈ ps c, m' p.1 = some p.2)
    (hr : ∀ z, (∀ p ∈ ps c, z ≠ p.1) → stored.contains z = false → m' z = m₀ z) (hi : Inv c) : TurnOk h₀ L s I oI Lg ps stored m₀ Inv { s with heap := h', toks := tk } :=
  ⟨c, h', tk, m', news', rfl, F, N, hI, hn, hd, hk, hr, hi⟩
end
namespace Cloopled
noncomputable def Pq (prog : Program) (w : World) (A : Around) (E : Value → Shared → Prop) (s : Shared) (env : Env) (h₀ : Heap) (x : Str) (body : List Stmt) (Q : Flow → Shared → Prop) (I : Addr) (fp : List Addr) (n : Nat) (P : Nat → Value → Prop) (St : Nat → Heap → Prop) (m₀ : Str → Option Value) (stored : List Str) : Prop := ∀ (σ : Type) (Lg : σ → Led) (ps : σ → List (Str × Value)) (Inv : Nat → σ → Prop) (c₀ : σ) (W : Walks prog w A I fp [I] n P St) (hfp : ∀ b ∈ fp, b = I ∨ (∃ o, ∀ c, (b, o) ∈ Lg c) ∨ ∃ o, h₀.get? b = some o) (hI₀ : h₀.get? I = none) (hIs : ∀ i h, St i h → ∃ o, h.get? I = some o) (hLf : env.locals ∉ fp) (hst : St 0 s.heap) (F : Fr h₀ env.locals s.heap m₀) (N : News h₀ env.locals s.heap (Lg c₀)) (hnI : ∀ p ∈ Lg c₀, p.1 ≠ I) (hk : ∀ p ∈ ps c₀, m₀ p.1 = some p.2) (h0 : Inv 0 c₀) (turn : ∀ i v c (u : Str → Option Value) h tk oI, i < n → P i v → Inv i c → (∀ p ∈ Lg c, p.1 ≠ I) → Fr h₀ env.locals h (fun y => if y = x then some v else kstB (fun z => if stored.contains z then u z else m₀ z) (ps c) y) → News h₀ env.locals h ((I, oI) :: Lg c) →
      wpAny (model prog w) A (execs body env) (TurnP h₀ env.locals { s with heap := h, toks := tk } I oI Lg ps stored m₀ (Inv (i + 1)) Q) E { s with heap := h, toks := tk }) (done : ∀ c (u : Str → Option Value) h tk, Inv n c → Fr h₀ env.locals h (kstB (fun z => if stored.contains z then u z else m₀ z) (ps c)) → News h₀ env.locals h (Lg c) → Q .next { s with heap := h, toks := tk }),
    LoopAtV prog w A h₀ env x body Q E (.ref I) s
noncomputable abbrev Tq : Type := (((((Program × World) × Around) × ((Value → Shared → Prop) × Shared)) × ((Env × Heap) × (Str × (List Stmt)))) × ((((Flow → Shared → Prop) × Addr) × ((List Addr) × Nat)) × (((Nat → Value → Prop) × (Nat → Heap → Prop)) × ((Str → Option Value) × (List Str)))))
theorem exq : ∃ t : Tq, Pq t.1.1.1.1.1 t.1.1.1.1.2 t.1.1.1.2 t.1.1.2.1 t.1.1.2.2 t.1.2.1.1 t.1.2.1.2 t.1.2.2.1 t.1.2.2.2 t.2.1.1.1 t.2.1.1.2 t.2.1.2.1 t.2.1.2.2 t.2.2.1.1 t.2.2.1.2 t.2.2.2.1 t.2.2.2.2 → ∀ t : Tq, Pq t.1.1.1.1.1 t.1.1.1.1.2 t.1.1.1.2 t.1.1.2.1 t.1.1.2.2 t.1.2.1.1 t.1.2.1.2 t.1.2.2.1 t.1.2.2.2 t.2.1.1.1 t.2.1.1.2 t.2.1.2.1 t.2.1.2.2 t.2.2.1.1 t.2.2.1.2 t.2.2.2.1 t.2.2.2.2 := dk (α := Tq) ((((((default, aWorld 0), ({} : Around)), ((fun _ _ => True), ({} : Shared))), ((default, default), (default, default))), ((((fun _ _ => True), default), (default, default)), (((fun _ _ => True), (fun _ _ => True)), ((fun _ => default), default))))) _
noncomputable def cq : Tq := Classical.choose exq
@[irreducible] noncomputable def prog : Program := cq.1.1.1.1.1
@[irreducible] noncomputable def w : World := cq.1.1.1.1.2
@[irreducible] noncomputable def A : Around := cq.1.1.1.2
@[irreducible] noncomputable def E : Value → Shared → Prop := cq.1.1.2.1
@[irreducible] noncomputable def s : Shared := cq.1.1.2.2
@[irreducible] noncomputable def env : Env := cq.1.2.1.1
@[irreducible] noncomputable def h₀ : Heap := cq.1.2.1.2
@[irreducible] noncomputable def x : Str := cq.1.2.2.1
@[irreducible] noncomputable def body : List Stmt := cq.1.2.2.2
@[irreducible] noncomputable def Q : Flow → Shared → Prop := cq.2.1.1.1
@[irreducible] noncomputable def I : Addr := cq.2.1.1.2
@[irreducible] noncomputable def fp : List Addr := cq.2.1.2.1
@[irreducible] noncomputable def n : Nat := cq.2.1.2.2
@[irreducible] noncomputable def P : Nat → Value → Prop := cq.2.2.1.1
@[irreducible] noncomputable def St : Nat → Heap → Prop := cq.2.2.1.2
@[irreducible] noncomputable def m₀ : Str → Option Value := cq.2.2.2.1
@[irreducible] noncomputable def stored : List Str := cq.2.2.2.2
theorem coreq : Pq prog w A E s env h₀ x body Q I fp n P St m₀ stored := by
  unfold Pq
  intro σ Lg ps Inv c₀ W hfp hI₀ hIs hLf hst F N hnI hk h0 turn done
  have hIf : I ∈ fp := W.sub I (by simp)
  let J : Nat → (Str → Option Value) → Led → Prop := fun i m nx => ∃ c, nx = Lg c ∧ (∀ p ∈ ps c, m p.1 = some p.2) ∧ (∀ z, (∀ p ∈ ps c, z ≠ p.1) → stored.contains z = false → m z = m₀ z) ∧ Inv i c
  have fr : ∀ {h : Heap} {m : Str → Option Value} {c : σ}, (∀ p ∈ ps c, m p.1 = some p.2) → (∀ z, (∀ p ∈ ps c, z ≠ p.1) → stored.contains z = false → m z = m₀ z) → kstB (fun z => if stored.contains z then m z else m₀ z) (ps c) = m := by
    intro h m c h1 h2
    funext y
    refine kstB_eq h1 fun hn => ?_
    show (if stored.contains y = true then m y else m₀ y) = m y
    cases h3 : stored.contains y with
    | true => simp
    | false => simp only [Bool.false_eq_true, if_false]; exact (h2 y hn h3).symm
  refine ⟨I, fp, [I], n, P, St, m₀, Lg c₀, J, rfl, W, hLf, fun b hb => (List.mem_singleton.mp hb) ▸ hI₀, fun p hp hq => hnI p hp (List.mem_singleton.mp hq), hst, F, N, ⟨c₀, rfl, hk, fun _ _ _ => rfl, h0⟩, ?_, ?_⟩
  · rintro i v m₁ news₁ s₁ own ⟨hh', tk', rfl⟩ hin hP ⟨c, rfl, h1, h2, h3⟩ hoff hown hownh hall hst' F₁ N₁
    obtain ⟨oI, hoI⟩ := hIs _ _ hst'
    have hmI : (I, oI) ∈ own := hall I hIf hI₀ oI hoI
    have hone : ∀ p ∈ own, p = (I, oI) ∨ p ∈ Lg c := by
      intro p hp
      rcases hfp p.1 (hown p hp) with e | ⟨o, ho⟩ | ⟨o, ho⟩
      · left
        have := hownh p hp
        rw [e, hoI] at this
        exact Prod.ext e (Option.some.inj this).symm
      · right
        have a := (N₁ _ (List.mem_append_right _ (ho c))).1
        have b := hownh p hp
        rw [a] at b
        rw [show p = (p.1, o) from Prod.ext rfl (Option.some.inj b).symm]
        exact ho c
      · have a := (N₁ p (List.mem_append_left _ hp)).2.2
        rw [ho] at a; cases a
    have F₂ := F₁
    rw [← fr (h := hh') h1 h2] at F₂
    refine wpAny_mono (turn i v c m₁ hh' tk' oI hin hP h3 (fun p hp q => hoff p hp (by simp [q])) F₂ (fun p hp => N₁ p ?_)) (fun f s₂ p => ?_) fun _ _ e => e
    · rcases List.mem_cons.mp hp with rfl | hp
      · exact List.mem_append_left _ hmI
      · exact List.mem_append_right _ hp
    · have fin : TurnOk h₀ env.locals { s with heap := hh', toks := tk' } I oI Lg ps stored m₀ (Inv (i + 1)) s₂ → LoopStepU h₀ env.locals [I] own (J (i + 1)) { s with heap := hh', toks := tk' } .next s₂ := by
        rintro ⟨c', h', tk, m', news', e, F', N', mI, hn, hd, hk', hr', hi'⟩
        refine ⟨rfl, h', tk, m', Lg c', e, F', fun p hp => ?_, fun p hp q => hd p hp (List.mem_singleton.mp q), c', rfl, hk', hr', hi'⟩
        rcases List.mem_append.mp hp with hp | hp
        · rcases hfp p.1 (hown p hp) with e1 | ⟨o, ho⟩ | ⟨o, ho⟩
          · rcases hone p hp with rfl | hq
            · exact N' _ mI
            · exact absurd (by simp [e1]) (hoff p hq)
          · have a := (N₁ _ (List.mem_append_right _ (ho c))).1
            have b := hownh p hp
            rw [a] at b
            rw [show p = (p.1, o) from Prod.ext rfl (Option.some.inj b).symm]
            exact N' _ (hn _ (ho c'))
          · have a := (N₁ p (List.mem_append_left _ hp)).2.2
            rw [ho] at a; cases a
        · exact N' p (hn p hp)
      cases f with
      | ret v => exact .ret p
      | brk => exact .brk p
      | next => exact .next (fin p)
      | cont => exact .cont (fin p)
  · rintro h' tk m' news' F' N' _ ⟨c, rfl, h1, h2, h3⟩
    refine done c m' h' tk h3 ?_ N'
    rw [fr (h := h') h1 h2]
    exact F'
theorem allq (prog : Program) (w : World) (A : Around) (E : Value → Shared → Prop) (s : Shared) (env : Env) (h₀ : Heap) (x : Str) (body : List Stmt) (Q : Flow → Shared → Prop) (I : Addr) (fp : List Addr) (n : Nat) (P : Nat → Value → Prop) (St : Nat → Heap → Prop) (m₀ : Str → Option Value) (stored : List Str) : Pq prog w A E s env h₀ x body Q I fp n P St m₀ stored := by
  with_unfolding_all exact Classical.choose_spec exq coreq (((((prog, w), A), (E, s)), ((env, h₀), (x, body))), (((Q, I), (fp, n)), ((P, St), (m₀, stored))))
end Cloopled
section
variable {prog : Program} {w : World} {A : Around} {E : Value → Shared → Prop} {s : Shared} {env : Env} {h₀ : Heap} {x : Str} {body : List Stmt} {Q : Flow → Shared → Prop}
theorem loop_led {σ : Type} {I : Addr} {fp : List Addr} {n : Nat} {P : Nat → Value → Prop} {St : Nat → Heap → Prop} {m₀ : Str → Option Value} (Lg : σ → Led) (ps : σ → List (Str × Value)) (stored : List Str) (Inv : Nat → σ → Prop) (c₀ : σ)
    (W : Walks prog w A I fp [I] n P St) (hfp : ∀ b ∈ fp, b = I ∨ (∃ o, ∀ c, (b, o) ∈ Lg c) ∨ ∃ o, h₀.get? b = some o) (hI₀ : h₀.get? I = none) (hIs : ∀ i h, St i h → ∃ o, h.get? I = some o) (hLf : env.locals ∉ fp)
    (hst : St 0 s.heap) (F : Fr h₀ env.locals s.heap m₀) (N : News h₀ env.locals s.heap (Lg c₀)) (hnI : ∀ p ∈ Lg c₀, p.1 ≠ I) (hk : ∀ p ∈ ps c₀, m₀ p.1 = some p.2) (h0 : Inv 0 c₀)
    (turn : ∀ i v c (u : Str → Option Value) h tk oI, i < n → P i v → Inv i c → (∀ p ∈ Lg c, p.1 ≠ I) → Fr h₀ env.locals h (fun y => if y = x then some v else kstB (fun z => if stored.contains z then u z else m₀ z) (ps c) y) → News h₀ env.locals h ((I, oI) :: Lg c) →
      wpAny (model prog w) A (execs body env) (TurnP h₀ env.locals { s with heap := h, toks := tk } I oI Lg ps stored m₀ (Inv (i + 1)) Q) E { s with heap := h, toks := tk })
    (done : ∀ c (u : Str → Option Value) h tk, Inv n c → Fr h₀ env.locals h (kstB (fun z => if stored.contains z then u z else m₀ z) (ps c)) → News h₀ env.locals h (Lg c) → Q .next { s with heap := h, toks := tk }) :
    LoopAtV prog w A h₀ env x body Q E (.ref I) s :=
  Cloopled.allq prog w A E s env h₀ x body Q I fp n P St m₀ stored σ Lg ps Inv c₀ W hfp hI₀ hIs hLf hst F N hnI hk h0 turn done
variable {σ : Type} {m₀ : Str → Option Value}
noncomputable abbrev TurnsL (prog : Program) (w : World) (A : Around) (E : Value → Shared → Prop) (s : Shared) (env : Env) (h₀ : Heap) (x : Str) (body : List Stmt) (Q : Flow → Shared → Prop) (m₀ : Str → Option Value) (Lg : σ → Led) (ps : σ → List (Str × Value)) (stored : List Str) (Inv : Nat → σ → Prop) (n : Nat) (P : Nat → Value → Prop) : Prop :=
  ∀ i v c (u : Str → Option Value) h tk I oI, i < n → P i v → Inv i c → (∀ p ∈ Lg c, p.1 ≠ I) → Fr h₀ env.locals h (fun y => if y = x then some v else kstB (fun z => if stored.contains z then u z else m₀ z) (ps c) y) → News h₀ env.locals h ((I, oI) :: Lg c) →
      wpAny (model prog w) A (execs body env) (TurnP h₀ env.locals { s with heap := h, toks := tk } I oI Lg ps stored m₀ (Inv (i + 1)) Q) E { s with heap := h, toks := tk }
noncomputable abbrev DoneL (s : Shared) (env : Env) (h₀ : Heap) (Q : Flow → Shared → Prop) (m₀ : Str → Option Value) (Lg : σ → Led) (ps : σ → List (Str × Value)) (stored : List Str) (Inv : Nat → σ → Prop) (n : Nat) : Prop :=
  ∀ c (u : Str → Option Value) h tk, Inv n c → Fr h₀ env.locals h (kstB (fun z => if stored.contains z then u z else m₀ z) (ps c)) → News h₀ env.locals h (Lg c) → Q .next { s with heap := h, toks := tk }
/-- over a list of the ledger, from its end -/
theorem iter_rev {l I : Addr} {vs : List Value} {k : Nat} (Lg : σ → Led) (ps : σ → List (Str × Value)) (stored : List Str) (Inv : Nat → σ → Prop) (c₀ : σ)
    (hh : A.handled = none) (F : Fr h₀ env.locals s.heap m₀) (N : News h₀ env.locals s.heap ((I, revObj l ((vs.length : Int) - 1)) :: Lg c₀)) (hl : ∀ c, (l, listOf vs.toArray k) ∈ Lg c) (hnI : ∀ p ∈ Lg c₀, p.1 ≠ I) (hk : ∀ p ∈ ps c₀, m₀ p.1 = some p.2) (h0 : Inv 0 c₀)
    (turn : TurnsL prog w A E s env h₀ x body Q m₀ Lg ps stored Inv vs.length (fun i v => vs[vs.length - 1 - i]? = some v))
    (done : DoneL s env h₀ Q m₀ Lg ps stored Inv vs.length) :
    wpAny (model prog w) A (pyIter (.ref I)) (fun it s₂ => LoopAtV prog w A h₀ env x body Q E it s₂) E s := by
  have hI := N _ (.head _)
  have hL := N _ (.tail _ (hl c₀))
  have hit : s.heap.IsRevIter I l ((vs.length : Int) - 1) := ⟨_, hI.1, rfl, rfl⟩
  have hls : s.heap.IsList l vs.toArray := ⟨_, hL.1, rfl, k, rfl⟩
  refine wpAny_pyIter_revIter hit ?_
  have W := Walks.listRev (prog := prog) (w := w) hh I l (hnI _ (hl c₀)) vs.toArray
  rw [show vs.toArray.size = vs.length from by simp] at W
  refine loop_led Lg ps stored Inv c₀ W ?_ hI.2.2 ?_ ?_ ?_ F (fun p hp => N p (.tail _ hp)) hnI hk h0 ?_ done
  · intro b hb
    rcases List.mem_cons.mp hb with rfl | hb
    · exact .inl rfl
    · rw [List.mem_singleton.mp hb]; exact .inr (.inl ⟨_, hl⟩)
  · rintro i h ⟨_, ⟨o, ho, _⟩, _⟩; exact ⟨o, ho⟩
  · intro hm
    rcases List.mem_cons.mp hm with e | hm
    · exact hI.2.1 e.symm
    · exact hL.2.1 (List.mem_singleton.mp hm).symm
  · exact ⟨Nat.zero_le _, by simpa using hit, hls⟩
  · intro i v c u h tk oI hi hP hIv hne F' N'
    exact turn i v c u h tk I oI hi (by simpa using hP) hIv hne F' N'
/-- over a list of the ledger -/
theorem iter_list {l : Addr} {vs : List Value} {k : Nat} (Lg : σ → Led) (ps : σ → List (Str × Value)) (stored : List Str) (Inv : Nat → σ → Prop) (c₀ : σ)
    (hh : A.handled = none) (F : Fr h₀ env.locals s.heap m₀) (N : News h₀ env.locals s.heap (Lg c₀)) (hl : ∀ c, (l, listOf vs.toArray k) ∈ Lg c) (hk : ∀ p ∈ ps c₀, m₀ p.1 = some p.2) (h0 : Inv 0 c₀)
    (turn : TurnsL prog w A E s env h₀ x body Q m₀ Lg ps stored Inv vs.length (fun i v => vs[i]? = some v))
    (done : DoneL s env h₀ Q m₀ Lg ps stored Inv vs.length) :
    wpAny (model prog w) A (pyIter (.ref l)) (fun it s₂ => LoopAtV prog w A h₀ env x body Q E it s₂) E s := by
  have hL := N _ (hl c₀)
  have hls : s.heap.IsList l vs.toArray := ⟨_, hL.1, rfl, k, rfl⟩
  refine wpAny_pyIter_list hls ?_
  have hlt : l < s.heap.objs.size := Heap.lt_size hL.1
  have W := Walks.list (prog := prog) (w := w) hh s.heap.objs.size l (Nat.ne_of_lt hlt) vs.toArray
  rw [show vs.toArray.size = vs.length from by simp] at W
  refine loop_led (s := { s with heap := s.heap.push _ }) Lg ps stored Inv c₀ W ?_ (next_is_new F) ?_ ?_ ⟨⟨_, Heap.get?_push_size _ rfl, rfl, rfl⟩, hls.at fun o e => Heap.get?_push_of_some _ e⟩ (F.push _) (fun p hp => ⟨Heap.get?_push_of_some _ (N p hp).1, (N p hp).2⟩) (fun p hp => Nat.ne_of_lt (Heap.lt_size (N p hp).1)) hk h0 ?_ done
  · intro b hb
    rcases List.mem_cons.mp hb with rfl | hb
    · exact .inl rfl
    · rw [List.mem_singleton.mp hb]; exact .inr (.inl ⟨_, hl⟩)
  · rintro i h ⟨⟨o, ho, _⟩, _⟩; exact ⟨o, ho⟩
  · intro hm
    rcases List.mem_cons.mp hm with e | hm
    · exact absurd F.ns.lt (e ▸ Nat.lt_irrefl _)
    · exact hL.2.1 (List.mem_singleton.mp hm).symm
  · intro i v c u h tk oI hi hP hIv hne F' N'
    exact turn i v c u h tk _ oI hi (by simpa using hP) hIv hne F' N'
/-- over a tuple of the ledger -/
theorem iter_tuple {l : Addr} {vs : List Value} (Lg : σ → Led) (ps : σ → List (Str × Value)) (stored : List Str) (Inv : Nat → σ → Prop) (c₀ : σ)
    (hh : A.handled = none) (F : Fr h₀ env.locals s.heap m₀) (N : News h₀ env.locals s.heap (Lg c₀)) (hl : ∀ c, (l, tupO vs) ∈ Lg c) (hk : ∀ p ∈ ps c₀, m₀ p.1 = some p.2) (h0 : Inv 0 c₀)
    (turn : TurnsL prog w A E s env h₀ x body Q m₀ Lg ps stored Inv vs.length (fun i v => vs[i]? = some v))
    (done : DoneL s env h₀ Q m₀ Lg ps stored Inv vs.length) :
    wpAny (model prog w) A (pyIter (.ref l)) (fun it s₂ => LoopAtV prog w A h₀ env x body Q E it s₂) E s := by
  have hL := N _ (hl c₀)
  have hls : s.heap.IsTuple l vs.toArray := ⟨_, hL.1, rfl, _, rfl⟩
  refine wpAny_pyIter_tuple hls ?_
  have hlt : l < s.heap.objs.size := Heap.lt_size hL.1
  have W := Walks.tuple (prog := prog) (w := w) hh s.heap.objs.size l (Nat.ne_of_lt hlt) vs.toArray
  rw [show vs.toArray.size = vs.length from by simp] at W
  refine loop_led (s := { s with heap := s.heap.push _ }) Lg ps stored Inv c₀ W ?_ (next_is_new F) ?_ ?_ ⟨⟨_, Heap.get?_push_size _ rfl, rfl, rfl⟩, hls.at fun o e => Heap.get?_push_of_some _ e⟩ (F.push _) (fun p hp => ⟨Heap.get?_push_of_some _ (N p hp).1, (N p hp).2⟩) (fun p hp => Nat.ne_of_lt (Heap.lt_size (N p hp).1)) hk h0 ?_ done
  · intro b hb
    rcases List.mem_cons.mp hb with rfl | hb
    · exact .inl rfl
    · rw [List.mem_singleton.mp hb]; exact .inr (.inl ⟨_, hl⟩)
  · rintro i h ⟨⟨o, ho, _⟩, _⟩; exact ⟨o, ho⟩
  · intro hm
    rcases List.mem_cons.mp hm with e | hm
    · exact absurd F.ns.lt (e ▸ Nat.lt_irrefl _)
    · exact hL.2.1 (List.mem_singleton.mp hm).symm
  · intro i v c u h tk oI hi hP hIv hne F' N'
    exact turn i v c u h tk _ oI hi (by simpa using hP) hIv hne F' N'
/-- over a range by ones -/
theorem iter_range {r : Addr} {a₀ b₀ : Int} {t₀ u₀ v₀ : Tok} {n : Nat} (Lg : σ → Led) (ps : σ → List (Str × Value)) (stored : List Str) (Inv : Nat → σ → Prop) (c₀ : σ)
    (hh : A.handled = none) (hr : IsRange s.heap r a₀ b₀ 1 t₀ u₀ v₀) (hsmall : Builtin.Range.small a₀ b₀ 1 = true) (hn : Builtin.Range.rangeSize a₀ b₀ 1 = (n : Int)) (F : Fr h₀ env.locals s.heap m₀) (N : News h₀ env.locals s.heap (Lg c₀)) (hk : ∀ p ∈ ps c₀, m₀ p.1 = some p.2) (h0 : Inv 0 c₀)
    (turn : TurnsL prog w A E s env h₀ x body Q m₀ Lg ps stored Inv n (fun i v => ∃ t, v = .int (a₀ + i) t))
    (done : DoneL s env h₀ Q m₀ Lg ps stored Inv n) :
    wpAny (model prog w) A (pyIter (.ref r)) (fun it s₂ => LoopAtV prog w A h₀ env x body Q E it s₂) E s := by
  refine wpAny_pyIter_range hr hsmall ?_
  have W := Walks.range (prog := prog) (w := w) hh s.heap.objs.size a₀ 1 n
  refine loop_led (s := { s with heap := s.heap.push _ }) Lg ps stored Inv c₀ W (fun b hb => .inl (List.mem_singleton.mp hb)) (next_is_new F) (fun i h hs => ⟨_, hs⟩) ?_ (by show IsRangeIter _ _ _ _ _; rw [hn]; simpa using Heap.get?_push_size _ rfl) (F.push _) (fun p hp => ⟨Heap.get?_push_of_some _ (N p hp).1, (N p hp).2⟩) (fun p hp => Nat.ne_of_lt (Heap.lt_size (N p hp).1)) hk h0 ?_ done
  · intro hm
    exact absurd F.ns.lt ((List.mem_singleton.mp hm) ▸ Nat.lt_irrefl _)
  · rintro i v c u h tk oI hi ⟨t, rfl⟩ hIv hne F' N'
    exact turn i _ c u h tk _ oI hi ⟨t, by simp⟩ hIv hne F' N'
/-- over a text -/
theorem iter_text {X : Str} {t₀ : Tok} (Lg : σ → Led) (ps : σ → List (Str × Value)) (stored : List Str) (Inv : Nat → σ → Prop) (c₀ : σ)
    (hh : A.handled = none) (F : Fr h₀ env.locals s.heap m₀) (N : News h₀ env.locals s.heap (Lg c₀)) (hk : ∀ p ∈ ps c₀, m₀ p.1 = some p.2) (h0 : Inv 0 c₀)
    (turn : TurnsL prog w A E s env h₀ x body Q m₀ Lg ps stored Inv X.cps.size (SignAt X))
    (done : DoneL s env h₀ Q m₀ Lg ps stored Inv X.cps.size) :
    wpAny (model prog w) A (pyIter (.str X t₀)) (fun it s₂ => LoopAtV prog w A h₀ env x body Q E it s₂) E s := by
  have hLf : env.locals ∉ [s.heap.objs.size] := fun hm => absurd F.ns.lt ((List.mem_singleton.mp hm) ▸ Nat.lt_irrefl _)
  cases ha : X.cps.all (· < 128)
  · refine wpAny_pyIter_wide ha ?_
    exact loop_led (s := { s with heap := s.heap.push _ }) Lg ps stored Inv c₀ (Walks.strWide hh _ X t₀) (fun b hb => .inl (List.mem_singleton.mp hb)) (next_is_new F) (fun i h hs => let ⟨o, ho, _⟩ := hs; ⟨o, ho⟩) hLf ⟨_, Heap.get?_push_size _ rfl, rfl, rfl⟩ (F.push _) (fun p hp => ⟨Heap.get?_push_of_some _ (N p hp).1, (N p hp).2⟩) (fun p hp => Nat.ne_of_lt (Heap.lt_size (N p hp).1)) hk h0 (fun i v c u h tk oI hi hP hIv hne F' N' => turn i v c u h tk _ oI hi hP hIv hne F' N') done
  · refine wpAny_pyIter_ascii ha ?_
    exact loop_led (s := { s with heap := s.heap.push _ }) Lg ps stored Inv c₀ (Walks.strAscii hh _ X t₀) (fun b hb => .inl (List.mem_singleton.mp hb)) (next_is_new F) (fun i h hs => let ⟨o, ho, _⟩ := hs; ⟨o, ho⟩) hLf ⟨_, Heap.get?_push_size _ rfl, rfl, rfl⟩ (F.push _) (fun p hp => ⟨Heap.get?_push_of_some _ (N p hp).1, (N p hp).2⟩) (fun p hp => Nat.ne_of_lt (Heap.lt_size (N p hp).1)) hk h0 (fun i v c u h tk oI hi hP hIv hne F' N' => turn i v c u h tk _ oI hi hP hIv hne F' N') done
end
end
-- M4
section
noncomputable def divStep (b : Int) (n : Nat) (st : Int × List Int) (d : Int) : Int × List Int := ((st.1 * 2 ^ n + d) % b, st.2 ++ [(st.1 * 2 ^ n + d) / b])
noncomputable def divFold (b : Int) (n : Nat) (ds : List Int) : Int × List Int := ds.foldl (divStep b n) (0, [])
theorem divFold_snoc (b : Int) (n : Nat) (ds : List Int) (d : Int) : divFold b n (ds ++ [d]) = divStep b n (divFold b n ds) d := by
  unfold divFold; rw [List.foldl_append]; rfl
theorem divStep_lt {b : Int} {n : Nat} {r d : Int} (_hb : 0 < b) (h0 : 0 ≤ r) (h1 : r < b) (d0 : 0 ≤ d) (d1 : d < 2 ^ n) : 0 ≤ r * 2 ^ n + d ∧ r * 2 ^ n + d < b * 2 ^ n := by
  have hp := pow_pos' n
  have h2 : 0 ≤ r * 2 ^ n := Int.mul_nonneg h0 (by omega)
  have h3 : (r + 1) * 2 ^ n ≤ b * 2 ^ n := Int.mul_le_mul_of_nonneg_right (by omega) (by omega)
  rw [Int.add_mul, Int.one_mul] at h3
  omega
theorem divFold_ok {b : Int} {n : Nat} (hb : 0 < b) : ∀ {l : List Int}, AreDigits n l →
    (divFold b n l.reverse).1 = undig n l % b ∧ undig n (divFold b n l.reverse).2.reverse = undig n l / b ∧ (divFold b n l.reverse).2.length = l.length ∧ AreDigits n (divFold b n l.reverse).2
  | [], _ => by
    refine ⟨?_, ?_, rfl, fun _ h => nomatch h⟩
    · show (0 : Int) = 0 % b; rw [Int.zero_emod]
    · show (0 : Int) = 0 / b; rw [Int.zero_ediv]
  | x :: l, h => by
    obtain ⟨i1, i2, i3, i4⟩ := divFold_ok hb (l := l) fun y hy => h y (.tail _ hy)
    have hx := h x (.head _)
    have hp := pow_pos' n
    rw [List.reverse_cons, divFold_snoc]
    unfold divStep
    have e := Int.ediv_mul_add_emod (undig n l) b
    have key : undig n (x :: l) = (undig n l % b * 2 ^ n + x) + (undig n l / b * 2 ^ n) * b := by
      rw [undig]
      have : 2 ^ n * undig n l = 2 ^ n * (undig n l / b * b + undig n l % b) := by rw [e]
      rw [this, Int.mul_add, Int.mul_comm (2 ^ n) (undig n l % b), ← Int.mul_assoc, Int.mul_comm (2 ^ n) (undig n l / b)]
      omega
    have m0 : 0 ≤ undig n l % b := Int.emod_nonneg _ (by omega)
    have m1 : undig n l % b < b := Int.emod_lt_of_pos _ hb
    have lt := divStep_lt hb m0 m1 hx.1 hx.2
    refine ⟨?_, ?_, ?_, ?_⟩
    · show (((divFold b n l.reverse).1 * 2 ^ n + x) % b) = _
      rw [i1, key, Int.add_mul_emod_self_right]
    · show undig n ((divFold b n l.reverse).2 ++ [((divFold b n l.reverse).1 * 2 ^ n + x) / b]).reverse = _
      rw [List.reverse_append, List.reverse_singleton, List.singleton_append, undig, i2, i1, key, Int.add_mul_ediv_right _ _ (by omega), Int.mul_comm (2 ^ n)]
    · show ((divFold b n l.reverse).2 ++ _).length = _
      rw [List.length_append, i3]; rfl
    · intro y hy
      rcases List.mem_append.mp hy with hy | hy
      · exact i4 y hy
      · rw [List.mem_singleton.mp hy, i1]
        exact ⟨Int.ediv_nonneg lt.1 (by omega), Int.ediv_lt_of_lt_mul hb (by rw [Int.mul_comm (2 ^ n) b]; exact lt.2)⟩
theorem divFold_rest {b : Int} {n : Nat} (hb : 0 < b) (ds : List Int) (d : Int) : 0 ≤ (divFold b n (ds ++ [d])).1 ∧ (divFold b n (ds ++ [d])).1 < b := by
  rw [divFold_snoc]
  exact ⟨Int.emod_nonneg _ (by omega), Int.emod_lt_of_pos _ hb⟩
theorem divFold_rest' {b : Int} {n : Nat} (hb : 0 < b) (ds : List Int) : 0 ≤ (divFold b n ds).1 ∧ (divFold b n ds).1 < b := by
  rcases List.eq_nil_or_concat ds with rfl | ⟨r, d, rfl⟩
  · exact ⟨Int.le_refl 0, hb⟩
  · have := divFold_rest (n := n) hb r d
    simpa using this
theorem divFold_len {b : Int} {n : Nat} (ds : List Int) : (divFold b n ds).2.length = ds.length := by
  have : ∀ (ds : List Int) (st : Int × List Int), (ds.foldl (divStep b n) st).2.length = st.2.length + ds.length := by
    intro ds
    induction ds with
    | nil => intro st; rfl
    | cons d r ih => intro st; rw [List.foldl_cons, ih]; simp [divStep]; omega
  have := this ds (0, [])
  simpa [divFold] using this
/-- the item of a list from its end -/
theorem rev_item {vs : List Value} {ns : List Int} (h : IntsAre vs ns) {i : Nat} {v : Value} (hi : i < vs.length) (hv : vs[vs.length - 1 - i]? = some v) : ∃ d t, v = .int d t ∧ ns.reverse[i]? = some d ∧ d ∈ ns := by
  have hl := h.length
  have hlt : vs.length - 1 - i < ns.length := by omega
  obtain ⟨t, ht⟩ := h.get (vs.length - 1 - i) ns[vs.length - 1 - i] (by simp [hlt])
  rw [hv] at ht
  refine ⟨_, t, Option.some.inj ht, ?_, List.getElem_mem _⟩
  rw [List.getElem?_reverse (by omega)]
  rw [List.getElem?_eq_getElem (by omega)]
  congr 1
  congr 1
  omega
theorem take_snoc {l : List Int} {i : Nat} {d : Int} (h : l[i]? = some d) : l.take (i + 1) = l.take i ++ [d] := by
  rw [List.take_add_one, h]; rfl
theorem cnt_le {a n : Int} (hn : 0 < n) : cnt a n ≤ Builtin.Int.intBits a := by
  unfold cnt
  generalize Builtin.Int.intBits a = B
  rcases Nat.eq_zero_or_pos B with h | h
  · subst h
    rw [show ((0 : Nat) : Int) + n - 1 = n - 1 by omega, Int.ediv_eq_zero_of_lt (by omega) (by omega)]; omega
  · refine Int.le_of_lt_add_one (Int.ediv_lt_of_lt_mul hn ?_)
    obtain ⟨c, rfl⟩ : ∃ c : Nat, B = c + 1 := ⟨B - 1, by omega⟩
    have : 0 ≤ (c : Int) * (n - 1) := Int.mul_nonneg (by omega) (by omega)
    rw [Int.mul_sub, Int.mul_one] at this
    rw [Int.natCast_add, Int.add_mul, Int.add_mul]
    omega
theorem intBits_neg (a : Int) : Builtin.Int.intBits (-a) = Builtin.Int.intBits a := by
  unfold Builtin.Int.intBits
  rw [Int.natAbs_neg]
  have : ((-a : Int) == 0) = (a == 0) := by
    by_cases h : a = 0
    · subst h; rfl
    · have h1 : (a == 0) = false := by simpa using h
      have h2 : ((-a : Int) == 0) = false := by simp; omega
      rw [h1, h2]
  rw [this]
theorem intBits_mono {a b : Int} (h0 : 0 ≤ a) (h : a ≤ b) : Builtin.Int.intBits a ≤ Builtin.Int.intBits b := by
  by_cases hb : b = 0
  · have : a = 0 := by omega
    subst this; subst hb; exact Nat.le_refl _
  · exact intBits_le h0 (Int.lt_of_le_of_lt h (intBits_pos (show 0 < b by omega)).2)
/-- division of a negative number by way of its complement -/
theorem div_compl {a b : Int} (hb : 0 < b) : -((-a - 1) / b) - 1 = a / b ∧ b + (-((-a - 1) % b) - 1) = a % b := by
  have e := Int.ediv_mul_add_emod (-a - 1) b
  have m0 := Int.emod_nonneg (-a - 1) (show b ≠ 0 by omega)
  have m1 := Int.emod_lt_of_pos (-a - 1) hb
  refine div_of_rest ?_ (by omega) (by omega)
  rw [Int.sub_mul, Int.neg_mul, Int.one_mul]; omega
end
-- L2
section
open PyProof.V PySem.Spec
/-- the addresses of the one part are none of the other's -/
noncomputable def Dj (T rest : Led) : Prop := ∀ q ∈ rest, ∀ r ∈ T, @Ne Nat q.1 r.1
theorem Dj.mono {T T' rest rest' : Led} (h : Dj T rest) (h1 : ∀ r ∈ T', r ∈ T) (h2 : ∀ q ∈ rest', q ∈ rest) : Dj T' rest' := fun q hq r hr => h q (h2 q hq) r (h1 r hr)
theorem Dj.symm {T rest : Led} (h : Dj T rest) : Dj rest T := fun q hq r hr => (h r hr q hq).symm
theorem Dj.cons {T rest : Led} {x : Addr} {o : Obj} (h : Dj T rest) (hx : ∀ r ∈ T, @Ne Nat x r.1) : Dj T ((x, o) :: rest) := List.forall_mem_cons.mpr ⟨hx, h⟩
theorem Dj.append {T r1 r2 : Led} (h1 : Dj T r1) (h2 : Dj T r2) : Dj T (r1 ++ r2) := fun q hq => (List.mem_append.mp hq).elim (h1 q) (h2 q)
theorem Dj.of_lt {T : Led} {x : Addr} {o : Obj} (h : AllLt x T) : Dj T [(x, o)] := List.forall_mem_cons.mpr ⟨fun r hr => (Nat.ne_of_lt (tb_ltOf h r hr)).symm, List.forall_mem_nil _⟩
/-- the table of inner code at P: none yet, or one -/
inductive TabOk (P : Addr) (line col : Nat) (qual : Str) : Led → Prop
  | fresh : TabOk P line col qual [(P, tabObj #[])]
  | made {c : Addr} {oc : Obj} {ws : Array Value} {t : Tok} : @Ne Nat c P → oc.data = .fields ws → ws[1]? = some (.str qual t) → TabOk P line col qual [(P, tabObj #[rawInt line, rawInt col, .ref c]), (c, oc)]
theorem TabSt.ok {P : Addr} {line col : Nat} {qual : Str} {T rest : Led} (h : TabSt P line col qual T rest) : TabOk P line col qual T := by
  cases h with
  | fresh _ => exact .fresh
  | made _ _ h1 h2 h3 => exact .made h1 h2 h3
theorem TabSt.dj {P : Addr} {line col : Nat} {qual : Str} {T rest : Led} (h : TabSt P line col qual T rest) : Dj T rest := by
  cases h with
  | fresh h1 => exact fun q hq => List.forall_mem_cons.mpr ⟨h1 q hq, List.forall_mem_nil _⟩
  | made h1 h2 _ _ _ => exact fun q hq => List.forall_mem_cons.mpr ⟨h1 q hq, List.forall_mem_cons.mpr ⟨h2 q hq, List.forall_mem_nil _⟩⟩
theorem TabOk.st {P : Addr} {line col : Nat} {qual : Str} {T rest : Led} (h : TabOk P line col qual T) (d : Dj T rest) : TabSt P line col qual T rest := by
  cases h with
  | fresh => exact .fresh fun q hq => d q hq _ (.head _)
  | made h1 h2 h3 => exact .made (fun q hq => d q hq _ (.head _)) (fun q hq => d q hq _ (.tail _ (.head _))) h1 h2 h3
noncomputable abbrev Tab42 : Led → Prop := TabOk 37 35 4 qual42
noncomputable abbrev Tab49 : Led → Prop := TabOk 44 50 4 qual49
/-- both tables, and what else the ledger bears -/
structure Tabs (T1 T2 rest : Led) : Prop where
  a : Tab42 T1
  b : Tab49 T2
  ab : Dj T1 T2
  ar : Dj T1 rest
  br : Dj T2 rest
section
variable {prog : Program} {w : World} {A : Around} {E : Value → Shared → Prop} {s : Shared} {h₀ : Heap} {L D : Addr} {m : Str → Option Value} {news news' : Led} {vs : List Value} {n : Nat}
theorem reverse_P {Q : Value → Shared → Prop} (F : Fr h₀ L s.heap m) (N : News h₀ L s.heap news) (U : Upd D (listOf vs.toArray n) (listOf vs.reverse.toArray n) news news') (hz : Pre (vs.length ≤ sizeLine))
    (h : ∀ h', Fr h₀ L h' m → News h₀ L h' news' → Q .none { s with heap := h' }) : wpAny (model prog w) A (call (.builtin "list.reverse") [.ref D]) Q E s := kl_reverse F N (l := vs.reverse) (by simp) U (show vs.toArray.toList.length ≤ sizeLine from hz) h
end
theorem ints_reverse {vs : List Value} {ns : List Int} (h : IntsAre vs ns) : IntsAre vs.reverse ns.reverse := by
  induction h with
  | nil => exact .nil
  | cons i t _ ih => rw [List.reverse_cons, List.reverse_cons]; exact ih.append (.cons i t .nil)
theorem ints_snoc {vs : List Value} {ns : List Int} {i : Int} {t : Tok} (h : IntsAre vs ns) : IntsAre (vs ++ [.int i t]) (ns ++ [i]) := h.append (.cons i t .nil)
end
-- C9
theorem fresh_C9 : True := by
  w_top off
  exact trivial
local macro_rules | `(tactic| walk_at "STEPS") => `(tactic| repeat' ((fail_if_success (with_reducible first | (show Pre _) | (show wpAny _ _ (exec (Stmt.While _ _ _ _) _) _ _ _))); walk_at "TRY"))
local macro_rules | `(tactic| walk_at "STEPS") => `(tactic| repeat' ((fail_if_success (with_reducible first | (show Pre _) | (show TurnOk _ _ _ _ _ _ _ _ _ _ _) | (show wpAny _ _ (exec (Stmt.While _ _ _ _) _) _ _ _) | (show wpAny _ _ (pyIter _) _ _ _) | (show wpAny _ _ (call (Value.ref _) _) _ _ _))); walk_at "TRY"))
local macro_rules | `(tactic| walk_at "TurnP") => `(tactic| (dsimp only [TurnP]))
local macro_rules | `(tactic| walk_at "exec For") => `(tactic| (k_here; (rename Fr _ _ _ _ => lF'); (with_unfolding_all refine' For_invVF lF' ?k1 ?k2 ?_; (case k1 => exact rfl); (case k2 => exact rfl); k_whole)))
local macro_rules | `(tactic| walk_at "call builtin:list.reverse") => `(tactic| (k_here; k_dflt (refine' reverse_P ?F ?N ?U ?z ?_; (case F => k_asm); (case N => k_asm); (case U => k_upd)); rotate_left; intro h' F' N'; (try k_sweep)))
/-- the answer of _divmod_pos: a new pair, the tables grown -/
noncomputable def OutDM (rest : Led) (q r : Int) (v : Value) (news' : Led) : Prop :=
  ∃ (x : Addr) (tq tr : Tok) (T1 T2 : Led), v = .ref x ∧ news' = (x, tupO [.int q tq, .int r tr]) :: (T1 ++ (T2 ++ rest)) ∧ Tabs T1 T2 rest ∧ AllLt x (T1 ++ (T2 ++ rest))
theorem allLt_mem {x : Addr} {l : Led} (h : AllLt x l) : ∀ p ∈ l, @LT.lt Nat _ p.1 x := fun p hp => tb_ltOf h p hp
theorem retDM {h₀ h' : Heap} {L x l' : Addr} {o' : Obj} {m : Str → Option Value} {rest T1 T2 R2 : Led} {s : Shared} {Q : Value → Shared → Prop} {q r q' r' : Int} {tq tr : Tok} {tk' : Nat}
    (hret : ∀ v news' h' tk', Fr h₀ L h' m → News h₀ L h' news' → OutDM rest q r v news' → Q v { s with heap := h', toks := tk' })
    (F : Fr h₀ L h' m) (N : News h₀ L h' ((x, tupO [.int q' tq, .int r' tr]) :: R2)) (hR : T2 ++ ((l', o') :: (T1 ++ rest)) = R2) (lt : ∀ p ∈ R2, p.1 < x) (tabs : Tabs T1 T2 rest) (e : q' = q ∧ r' = r) :
    Q (.ref x) { s with heap := h', toks := tk' } := by
  obtain ⟨rfl, rfl⟩ := e
  have sub : ∀ p ∈ T1 ++ (T2 ++ rest), p ∈ R2 := by
    intro p hp
    rw [← hR]
    rcases List.mem_append.mp hp with hp | hp
    · exact List.mem_append_right _ (.tail _ (List.mem_append_left _ hp))
    · rcases List.mem_append.mp hp with hp | hp
      · exact List.mem_append_left _ hp
      · exact List.mem_append_right _ (.tail _ (List.mem_append_right _ hp))
  refine hret _ _ h' tk' F ?_ ⟨x, tq, tr, T1, T2, rfl, rfl, tabs, allLt_of fun p hp => lt p (sub p hp)⟩
  intro p hp
  rcases List.mem_cons.mp hp with rfl | hp
  · exact N _ (.head _)
  · exact N _ (.tail _ (sub p hp))
section
variable (w : World) (p : Program) (loose : List Str) (mean : ExcName → Option Value) (mg mb : Str → Option Value)
end
namespace CdmpokI
noncomputable def Pq (w : World) (p : Program) (loose : List Str) (mean : ExcName → Option Value) (mg : Str → Option Value) (mb : Str → Option Value) (T1 : Led) (T2 : Led) (rest : Led) (a : Int) (b : Int) (ta : Tok) (tb : Tok) (R : Led) (dp : Nat) (un : Nat) (gd : Option (List Code)) (cn : Str) (cs : Scope) (a' : Addr) (ccd : Value) (cl : List (Str × Addr)) (outer : List Env) (A₀ : Around) (base : Heap) (h₀ : Heap) (L : Addr) (m : Str → Option Value) (s : Shared) (Q : Value → Shared → Prop) (E : Value → Shared → Prop) : Prop := ∀ (hT : Tabs T1 T2 rest) (ha : 0 ≤ a) (hb : 0 < b) (hab : Builtin.Int.intBits a ≤ 2 ^ 15) (hbb : Builtin.Int.intBits b ≤ 2 ^ 15) (hcc : cnt a (Builtin.Int.intBits b) ≤ 2 ^ 15) (hR : T1 ++ (T2 ++ rest) = R) (B : Below A₀ base outer h₀) (F : Fr h₀ L s.heap m) (X : (hd.heap_39 w.params).In h₀) (N : News h₀ L s.heap R) (T : Top p loose mean mg mb h₀) (hk : cs.kind = .function) (hC1 : CodeHd h₀ 41 37) (hC2 : CodeHd h₀ 48 44) (hd : dp + 24 < recursionLimit) (hu : un + 300 < cLine) (hret : ∀ r news' h' tk', Fr h₀ L h' m → News h₀ L h' news' → (OutDM rest (a / b) (a % b)) r news' → Q r { s with heap := h', toks := tk' }),
    wpAny (model PySem.Challenge.pw_sr0065_01 w) (ktrTop dp un gd cn cs L a' ccd cl outer) (call (.ref 56) [.int a ta, .int b tb]) Q E s
noncomputable abbrev Tq : Type := (((((World × Program) × ((List Str) × (ExcName → Option Value))) × (((Str → Option Value) × (Str → Option Value)) × (Led × Led))) × (((Led × Int) × (Int × Tok)) × ((Tok × Led) × (Nat × Nat)))) × (((((Option (List Code)) × Str) × (Scope × Addr)) × ((Value × (List (Str × Addr))) × ((List Env) × Around))) × (((Heap × Heap) × (Addr × (Str → Option Value))) × ((Shared × (Value → Shared → Prop)) × (Value → Shared → Prop)))))
theorem exq : ∃ t : Tq, Pq t.1.1.1.1.1 t.1.1.1.1.2 t.1.1.1.2.1 t.1.1.1.2.2 t.1.1.2.1.1 t.1.1.2.1.2 t.1.1.2.2.1 t.1.1.2.2.2 t.1.2.1.1.1 t.1.2.1.1.2 t.1.2.1.2.1 t.1.2.1.2.2 t.1.2.2.1.1 t.1.2.2.1.2 t.1.2.2.2.1 t.1.2.2.2.2 t.2.1.1.1.1 t.2.1.1.1.2 t.2.1.1.2.1 t.2.1.1.2.2 t.2.1.2.1.1 t.2.1.2.1.2 t.2.1.2.2.1 t.2.1.2.2.2 t.2.2.1.1.1 t.2.2.1.1.2 t.2.2.1.2.1 t.2.2.1.2.2 t.2.2.2.1.1 t.2.2.2.1.2 t.2.2.2.2 → ∀ t : Tq, Pq t.1.1.1.1.1 t.1.1.1.1.2 t.1.1.1.2.1 t.1.1.1.2.2 t.1.1.2.1.1 t.1.1.2.1.2 t.1.1.2.2.1 t.1.1.2.2.2 t.1.2.1.1.1 t.1.2.1.1.2 t.1.2.1.2.1 t.1.2.1.2.2 t.1.2.2.1.1 t.1.2.2.1.2 t.1.2.2.2.1 t.1.2.2.2.2 t.2.1.1.1.1 t.2.1.1.1.2 t.2.1.1.2.1 t.2.1.1.2.2 t.2.1.2.1.1 t.2.1.2.1.2 t.2.1.2.2.1 t.2.1.2.2.2 t.2.2.1.1.1 t.2.2.1.1.2 t.2.2.1.2.1 t.2.2.1.2.2 t.2.2.2.1.1 t.2.2.2.1.2 t.2.2.2.2 := dk (α := Tq) ((((((aWorld 0, default), (default, (fun _ => default))), (((fun _ => default), (fun _ => default)), (default, default))), (((default, default), (default, default)), ((default, default), (default, default)))), ((((default, default), (default, default)), ((default, default), (default, ({} : Around)))), (((default, default), (default, (fun _ => default))), ((({} : Shared), (fun _ _ => True)), (fun _ _ => True)))))) _
noncomputable def cq : Tq := Classical.choose exq
@[irreducible] noncomputable def w : World := cq.1.1.1.1.1
@[irreducible] noncomputable def p : Program := cq.1.1.1.1.2
@[irreducible] noncomputable def loose : List Str := cq.1.1.1.2.1
@[irreducible] noncomputable def mean : ExcName → Option Value := cq.1.1.1.2.2
@[irreducible] noncomputable def mg : Str → Option Value := cq.1.1.2.1.1
@[irreducible] noncomputable def mb : Str → Option Value := cq.1.1.2.1.2
@[irreducible] noncomputable def T1 : Led := cq.1.1.2.2.1
@[irreducible] noncomputable def T2 : Led := cq.1.1.2.2.2
@[irreducible] noncomputable def rest : Led := cq.1.2.1.1.1
@[irreducible] noncomputable def a : Int := cq.1.2.1.1.2
@[irreducible] noncomputable def b : Int := cq.1.2.1.2.1
@[irreducible] noncomputable def ta : Tok := cq.1.2.1.2.2
@[irreducible] noncomputable def tb : Tok := cq.1.2.2.1.1
@[irreducible] noncomputable def R : Led := cq.1.2.2.1.2
@[irreducible] noncomputable def dp : Nat := cq.1.2.2.2.1
@[irreducible] noncomputable def un : Nat := cq.1.2.2.2.2
@[irreducible] noncomputable def gd : Option (List Code) := cq.2.1.1.1.1
@[irreducible] noncomputable def cn : Str := cq.2.1.1.1.2
@[irreducible] noncomputable def cs : Scope := cq.2.1.1.2.1
@[irreducible] noncomputable def a' : Addr := cq.2.1.1.2.2
@[irreducible] noncomputable def ccd : Value := cq.2.1.2.1.1
@[irreducible] noncomputable def cl : List (Str × Addr) := cq.2.1.2.1.2
@[irreducible] noncomputable def outer : List Env := cq.2.1.2.2.1
@[irreducible] noncomputable def A₀ : Around := cq.2.1.2.2.2
@[irreducible] noncomputable def base : Heap := cq.2.2.1.1.1
@[irreducible] noncomputable def h₀ : Heap := cq.2.2.1.1.2
@[irreducible] noncomputable def L : Addr := cq.2.2.1.2.1
@[irreducible] noncomputable def m : Str → Option Value := cq.2.2.1.2.2
@[irreducible] noncomputable def s : Shared := cq.2.2.2.1.1
@[irreducible] noncomputable def Q : Value → Shared → Prop := cq.2.2.2.1.2
@[irreducible] noncomputable def E : Value → Shared → Prop := cq.2.2.2.2
noncomputable def cutq : {G : Prop // (∀ (hT : Tabs T1 T2 rest) (ha : 0 ≤ a) (hb : 0 < b) (hab : Builtin.Int.intBits a ≤ 2 ^ 15) (hbb : Builtin.Int.intBits b ≤ 2 ^ 15) (hcc : cnt a (Builtin.Int.intBits b) ≤ 2 ^ 15) (hR : T1 ++ (T2 ++ rest) = R) (B : Below A₀ base outer h₀) (F : Fr h₀ L s.heap m) (X : (hd.heap_39 w.params).In h₀) (N : News h₀ L s.heap R) (T : Top p loose mean mg mb h₀) (hk : cs.kind = .function) (hC1 : CodeHd h₀ 41 37) (hC2 : CodeHd h₀ 48 44) (hd : dp + 24 < recursionLimit) (hu : un + 300 < cLine) (hret : ∀ r news' h' tk', Fr h₀ L h' m → News h₀ L h' news' → (OutDM rest (a / b) (a % b)) r news' → Q r { s with heap := h', toks := tk' }), G) → Pq w p loose mean mg mb T1 T2 rest a b ta tb R dp un gd cn cs a' ccd cl outer A₀ base h₀ L m s Q E} := ⟨_, fun h9z => by
  unfold Pq
  intro hT ha hb hab hbb hcc hR B F X N T hk hC1 hC2 hd hu hret
  have h9y := fun (_ : Unit) => h9z hT ha hb hab hbb hcc hR B F X N T hk hC1 hC2 hd hu hret
  refine wpAny_call ?_
  (k_dflt (refine' code_def ?k1u7 ?k2u7 ?k3u7 ?k4u7 ?k5u7 ?kAu7 ?kFu7 ?kKu7 ?k6u7 ?k7u7 ?k8u7 ?k9u7 ?kBu7 ?_ ?c2u7 ?c3u7 ?c4u7 ?c5u7; (case kAu7 => exact rfl); (case kFu7 => exact rfl); (case kKu7 => assumption); (case k1u7 | k2u7 | k3u7 | k4u7 | k5u7 => k_asm); (case k6u7 => k_is); (case k7u7 => k_is); (case k8u7 => ktr_room); (case k9u7 => exact BindsTo.of_eq rfl); (case c5u7 => decide); (case kBu7 => exact locs rfl); (case c2u7 => exact rfl); (case c3u7 => exact rfl); (case c4u7 => exact rfl); k_whole; intro gz Lz hz FGz Fz Nz Bz Xz Tz; (have Cz := CodeHd.keeps (c := 41) (P := 37) (by assumption) (Fr.keep FGz)); (have Dz := CodeHd.keeps (c := 48) (P := 44) (by assumption) (Fr.keep FGz)); (try dsimp only); (try k_fold)))
  revert Dz
  revert Cz
  revert Tz
  revert Xz
  revert Bz
  revert Nz
  revert Fz
  revert FGz
  revert hz
  revert Lz
  revert gz
  exact h9y ()⟩
noncomputable def pcq : {Pc : Heap → Addr → Heap → Prop // (∀ a b c, Pc a b c) → cutq.1} := ⟨_, fun h => h⟩
theorem exc : ∃ t : ((Heap × Addr) × Heap), pcq.1 t.1.1 t.1.2 t.2 → ∀ t : ((Heap × Addr) × Heap), pcq.1 t.1.1 t.1.2 t.2 := dk (α := ((Heap × Addr) × Heap)) ((default, default), default) _
noncomputable def ccq : ((Heap × Addr) × Heap) := Classical.choose exc
@[irreducible] noncomputable def gz : Heap := ccq.1.1
@[irreducible] noncomputable def Lz : Addr := ccq.1.2
@[irreducible] noncomputable def hz : Heap := ccq.2
theorem core2 (hT : Tabs T1 T2 rest) (ha : 0 ≤ a) (hb : 0 < b) (hab : Builtin.Int.intBits a ≤ 2 ^ 15) (hbb : Builtin.Int.intBits b ≤ 2 ^ 15) (hcc : cnt a (Builtin.Int.intBits b) ≤ 2 ^ 15) (hR : T1 ++ (T2 ++ rest) = R) (B : Below A₀ base outer h₀) (F : Fr h₀ L s.heap m) (X : (hd.heap_39 w.params).In h₀) (N : News h₀ L s.heap R) (T : Top p loose mean mg mb h₀) (hk : cs.kind = .function) (hC1 : CodeHd h₀ 41 37) (hC2 : CodeHd h₀ 48 44) (hd : dp + 24 < recursionLimit) (hu : un + 300 < cLine) (hret : ∀ r news' h' tk', Fr h₀ L h' m → News h₀ L h' news' → (OutDM rest (a / b) (a % b)) r news' → Q r { s with heap := h', toks := tk' }) : pcq.1 gz Lz hz := by
  have hn1 : 1 ≤ Builtin.Int.intBits b := intBits_ge_of (k := 0) (by rw [Int.pow_zero]; omega)
  have hbn := intBits_pos hb
  obtain ⟨c1, c2, c3, c4, c5⟩ := cnt_facts (n := (Builtin.Int.intBits b : Int)) ha (by omega) (by omega) (by omega)
  intro FGz Fz Nz Bz Xz Tz Cz Dz
  walk_at "STEPS"
  k_dflt refine' CallOkC.use (i2d_ok w p loose mean mg mb T1 (T2 ++ rest) a _ ta _ (hT.a.st (hT.ab.append hT.ar)) ha (by omega) (by omega) (by omega) hcc) ?k1 ?k2 ?k3 ?k4 ?ks ?k5 ?k6 ?kc1 ?kc2 ?k7 ?k8 ?_
  walk_at "KS"
  case ks => (rw [hR]; exact fun p hp => hp)
  intro r1 news1 h1 tk1 F1 N1 hO0
  obtain ⟨D, vs, T1', er, hvs, en, hTS, hD⟩ := hO0
  subst er; subst en
  have hT1 := hTS.ok
  have hDj := hTS.dj
  generalize hR1 : T1' ++ (T2 ++ rest) = R1 at N1
  (try dsimp only); (try k_fold)
  walk_at "STEPS"
  have hlen := hvs.length
  have hdl := dig_len (Builtin.Int.intBits b) (cnt a (Builtin.Int.intBits b)).toNat a
  have hdd := dig_digits (n := Builtin.Int.intBits b) (cnt a (Builtin.Int.intBits b)).toNat a
  rw [Int.toNat_natCast] at hvs hlen c3
  generalize hds : dig (Builtin.Int.intBits b) (cnt a (Builtin.Int.intBits b)).toNat a = ds at hvs hlen hdl hdd
  (rename Fr _ _ _ _ => lF'); (rename News _ _ _ _ => lN')
  with_unfolding_all refine' iter_rev (σ := Int × Tok × List Value × List Int × Nat) (l := D) (vs := vs) (k := 0) (fun c => (_, listOf c.2.2.1.toArray c.2.2.2.2) :: (D, listOf vs.toArray 0) :: R1) (fun c => [(Str.ofString "r", .int c.1 c.2.1)]) [Str.ofString "a_digit", Str.ofString "q_digit"] (fun i c => IntsAre c.2.2.1 c.2.2.2.1 ∧ (c.1, c.2.2.2.1) = divFold b (Builtin.Int.intBits b) (ds.reverse.take i)) (0, _, [], [], 0) (by rfl) lF' lN' ?hl ?hnI ?hk ?h0 ?turn ?done
  case hl => exact fun c => .tail _ (.head _)
  case hnI => exact lt_ne (by with_unfolding_all assumption)
  case hk => (with_unfolding_all kst_all)
  case h0 => exact ⟨.nil, rfl⟩
  case turn =>
    clear lF' lN'
    intro i v c u h tk I oI hi hP hInv hne F' N'
    obtain ⟨r, tr, vq, qs, ep⟩ := c
    obtain ⟨hI1, hI2⟩ := hInv
    dsimp only at hP hI1 hI2 hne F' N'
    obtain ⟨d, t, rfl, hd1, hd2⟩ := rev_item hvs hi hP
    have hr := divFold_rest' (n := Builtin.Int.intBits b) hb (ds.reverse.take i)
    rw [← hI2] at hr
    dsimp only at hr
    have hdr := hdd d hd2
    have hsl := divStep_lt hb hr.1 hr.2 hdr.1 hdr.2
    have hrb := lt_pow_bits hr.1 (Int.lt_trans hr.2 hbn.2)
    have hqs : qs.length = i := by
      have e1 := divFold_len (b := b) (n := Builtin.Int.intBits b) (ds.reverse.take i)
      rw [← hI2, List.length_take, List.length_reverse] at e1
      dsimp only at e1
      omega
    have hvq : vq.length = i := hI1.length.trans hqs
    have hsz : vq.toArray.size ≤ sizeLine := by rw [List.size_toArray, hvq, sizeLine_eq]; omega
    have hne1 := (List.forall_mem_cons.mp hne).1
    have hne2 := (List.forall_mem_cons.mp hne).2
    replace hne1 := neN hne1
    (try k_fold)
    walk_at "STEPS"
    rotate_left; rotate_left
    k_dflt refine' CallOk.use (d2_all w p loose mean mg mb 9 _ _ _ _ _ _ _ ?pre) ?k1 ?k2 ?k3 ?k4 ?k5 ?k6 ?k7 ?k8 ?_
    case k1 => k_asm
    case k2 => k_asm
    case k3 => k_asm
    case k4 => k_asm
    case k5 => k_asm
    case k6 => first | exact rfl | assumption
    case k7 => ktr_room
    case k8 => ktr_units
    rotate_left
    intro r9 n9 h9 tk9 F9 N9 hO0
    obtain ⟨x9, tq9, tr9, e9, e99, lt9⟩ := hO0
    subst e9 e99; simp only [AllLt, and_true] at lt9
    (try dsimp only); (try k_fold)
    walk_at "STEPS"
    (rename News _ _ _ _ => nE); simp only [List.push_toArray] at nE
    refine TurnOk.intro ((r * 2 ^ ((Builtin.Int.intBits b : Nat) : Int).toNat + d) % b, tr9, vq ++ [.int ((r * 2 ^ ((Builtin.Int.intBits b : Nat) : Int).toNat + d) / b) tq9], qs ++ [(r * 2 ^ ((Builtin.Int.intBits b : Nat) : Int).toNat + d) / b], ep + 1) (by assumption) nE (by k_mem) (by (((try dsimp only); (repeat (refine List.forall_mem_cons.mpr ⟨by k_mem, ?_⟩)); first | exact List.forall_mem_nil _ | walk_at "SUB"))) (List.forall_mem_cons.mpr ⟨hne1, hne2⟩) (by with_unfolding_all kst_all) ?_ ?_
    · ((intro zq22 h2q22 h3q22; (simp only [List.forall_mem_cons, List.not_mem_nil, false_implies, implies_true, and_true, ne_eq] at h2q22); (simp only [List.contains_cons, List.contains_nil, Bool.or_false, Bool.or_eq_false_iff, beq_eq_false_iff_ne, ne_eq] at h3q22); simp [h2q22, h3q22, kstB]))
    · refine ⟨ints_snoc hI1, ?_⟩
      dsimp only
      rw [Int.toNat_natCast, take_snoc hd1, divFold_snoc, ← hI2]; rfl
    · unfold Pre; omega
    · unfold Pre; omega
    · unfold Pre
      rw [Int.toNat_natCast]
      exact ⟨hsl.1, by omega, by omega, by omega, hbn.1, hbn.2, hsl.2⟩
  case done =>
    clear lF' lN'
    intro c u h tk hInv F' N'
    obtain ⟨r, tr, vq, qs, ep⟩ := c
    obtain ⟨hI1, hI2⟩ := hInv
    dsimp only at hI1 hI2 F' N'
    rw [List.take_of_length_le (by rw [List.length_reverse, ← hlen]; exact Nat.le_refl _)] at hI2
    obtain ⟨k1, k2, k3, k4⟩ := divFold_ok hb hdd
    rw [← hI2] at k1 k2 k3 k4
    dsimp only at k1 k2 k3 k4
    have hvq := hI1.length
    have hsz : vq.length ≤ sizeLine := by rw [hvq, k3, sizeLine_eq]; omega
    (try k_fold)
    walk_at "STEPS"
    rename (@LT.lt Nat _ D _ ∧ AllLt _ R1) => hl1
    have hq49 : IntsAre vq.reverse qs.reverse := ints_reverse hI1
    have hdig : AreDigits ((Builtin.Int.intBits b : Nat) : Int).toNat qs.reverse := by rw [Int.toNat_natCast]; exact fun y hy => k4 y (List.mem_reverse.mp hy)
    have hR1m : ∀ p ∈ T2, p ∈ R1 := fun p hp => hR1 ▸ List.mem_append_right _ (List.mem_append_left _ hp)
    have hR1a : ∀ p ∈ T1', p ∈ R1 := fun p hp => hR1 ▸ List.mem_append_left _ hp
    have hR1b : ∀ p ∈ rest, p ∈ R1 := fun p hp => hR1 ▸ List.mem_append_right _ (List.mem_append_right _ hp)
    have d12 : Dj T2 T1' := (hDj.mono (fun _ h => h) fun q hq => .tail _ (List.mem_append_left _ hq)).symm
    have hc2 : ((Builtin.Int.intBits b : Nat) : Int) * ((qs.reverse.length : Nat) : Int) ≤ 2 ^ 26 := by rw [List.length_reverse, k3, hdl, Int.toNat_of_nonneg c1]; exact c2
    k_dflt refine' CallOkC.use (d2i_ok w p loose mean mg mb T2 (T1' ++ rest) _ _ vq.reverse qs.reverse ep _ (hT.b.st (Dj.cons (Dj.append d12 hT.br) fun q hq => (Nat.ne_of_lt (allLt_mem hl1.2 q (hR1m q hq))).symm)) hq49 (by rw [List.length_reverse, k3]; omega) (by omega) hc2 hdig) ?k1 ?k2 ?k3 ?k4 ?ks ?k5 ?k6 ?kc1 ?kc2 ?k7 ?k8 ?_
    walk_at "KS"
    case ks =>
      intro q hq
      rcases List.mem_append.mp hq with hq | hq
      · exact .tail _ (.tail _ (hR1m q hq))
      · rcases List.mem_cons.mp hq with rfl | hq
        · exact .head _
        · rcases List.mem_append.mp hq with hq | hq
          · exact .tail _ (.tail _ (hR1a q hq))
          · exact .tail _ (.tail _ (hR1b q hq))
    intro r2 news2 h2 tk2 F2 N2 hO0
    obtain ⟨t2, T2', er2, en2, hTS2⟩ := hO0
    subst er2; subst en2
    have hT2 := hTS2.ok
    have hDj2 := hTS2.dj
    generalize hR2 : T2' ++ _ = R2 at N2
    (try dsimp only); (try k_fold)
    walk_at "STEPS"
    · refine retDM hret (by k_asm) (by k_asm) hR2 (by assumption) ⟨hT1, hT2, ?_, ?_, ?_⟩ ?_
      · exact (hDj2.mono (fun _ h => h) fun q hq => .tail _ (List.mem_append_left _ hq)).symm
      · exact hDj.mono (fun _ h => h) fun q hq => .tail _ (List.mem_append_right _ hq)
      · exact hDj2.mono (fun _ h => h) fun q hq => .tail _ (List.mem_append_right _ hq)
      · have ed : undig (Builtin.Int.intBits b) ds = a := by
          rw [← hds]; exact undig_dig _ _ ha c3
        rw [ed] at k1 k2
        rw [Int.toNat_natCast]
        exact ⟨k2, k1⟩
    · unfold Pre; exact hsz
theorem coreq : Pq w p loose mean mg mb T1 T2 rest a b ta tb R dp un gd cn cs a' ccd cl outer A₀ base h₀ L m s Q E := by
  with_unfolding_all exact cutq.2 fun hT ha hb hab hbb hcc hR B F X N T hk hC1 hC2 hd hu hret => pcq.2 fun a b c => Classical.choose_spec exc (core2 hT ha hb hab hbb hcc hR B F X N T hk hC1 hC2 hd hu hret) ((a, b), c)
theorem allq (w : World) (p : Program) (loose : List Str) (mean : ExcName → Option Value) (mg : Str → Option Value) (mb : Str → Option Value) (T1 : Led) (T2 : Led) (rest : Led) (a : Int) (b : Int) (ta : Tok) (tb : Tok) (R : Led) (dp : Nat) (un : Nat) (gd : Option (List Code)) (cn : Str) (cs : Scope) (a' : Addr) (ccd : Value) (cl : List (Str × Addr)) (outer : List Env) (A₀ : Around) (base : Heap) (h₀ : Heap) (L : Addr) (m : Str → Option Value) (s : Shared) (Q : Value → Shared → Prop) (E : Value → Shared → Prop) : Pq w p loose mean mg mb T1 T2 rest a b ta tb R dp un gd cn cs a' ccd cl outer A₀ base h₀ L m s Q E := by
  with_unfolding_all exact Classical.choose_spec exq coreq (((((w, p), (loose, mean)), ((mg, mb), (T1, T2))), (((rest, a), (b, ta)), ((tb, R), (dp, un)))), ((((gd, cn), (cs, a')), ((ccd, cl), (outer, A₀))), (((base, h₀), (L, m)), ((s, Q), E))))
end CdmpokI
section
variable (w : World) (p : Program) (loose : List Str) (mean : ExcName → Option Value) (mg mb : Str → Option Value)
theorem dmp_okI (T1 T2 rest : Led) (a b : Int) (ta tb : Tok) (hT : Tabs T1 T2 rest) (ha : 0 ≤ a) (hb : 0 < b) (hab : Builtin.Int.intBits a ≤ 2 ^ 15) (hbb : Builtin.Int.intBits b ≤ 2 ^ 15) (hcc : cnt a (Builtin.Int.intBits b) ≤ 2 ^ 15) {R : Led} (hR : T1 ++ (T2 ++ rest) = R) {dp : Nat} {un : Nat} {gd : Option (List Code)} {cn : Str} {cs : Scope} {a' : Addr} {ccd : Value} {cl : List (Str × Addr)} {outer : List Env} {A₀ : Around} {base : Heap} {h₀ : Heap} {L : Addr} {m : Str → Option Value} {s : Shared} {Q : Value → Shared → Prop} {E : Value → Shared → Prop}
    (B : Below A₀ base outer h₀) (F : Fr h₀ L s.heap m) (X : (hd.heap_39 w.params).In h₀) (N : News h₀ L s.heap R) (T : Top p loose mean mg mb h₀) (hk : cs.kind = .function) (hC1 : CodeHd h₀ 41 37) (hC2 : CodeHd h₀ 48 44) (hd : dp + 24 < recursionLimit) (hu : un + 300 < cLine) (hret : ∀ r news' h' tk', Fr h₀ L h' m → News h₀ L h' news' → (OutDM rest (a / b) (a % b)) r news' → Q r { s with heap := h', toks := tk' }) :
    wpAny (model PySem.Challenge.pw_sr0065_01 w) (ktrTop dp un gd cn cs L a' ccd cl outer) (call (.ref 56) [.int a ta, .int b tb]) Q E s :=
  CdmpokI.allq w p loose mean mg mb T1 T2 rest a b ta tb R dp un gd cn cs a' ccd cl outer A₀ base h₀ L m s Q E hT ha hb hab hbb hcc hR B F X N T hk hC1 hC2 hd hu hret
theorem dmp_ok (T1 T2 rest : Led) (a b : Int) (ta tb : Tok) (hT : Tabs T1 T2 rest) (ha : 0 ≤ a) (hb : 0 < b) (hab : Builtin.Int.intBits a ≤ 2 ^ 15) (hbb : Builtin.Int.intBits b ≤ 2 ^ 15) (hcc : cnt a (Builtin.Int.intBits b) ≤ 2 ^ 15) :
   CallOkC w p loose mean mg mb 56 [.int a ta, .int b tb] 24 300 (T1 ++ (T2 ++ rest)) (OutDM rest (a / b) (a % b)) := by
  unfold CallOkC
  intro dp un gd cn cs a' ccd cl outer A₀ base h₀ L m s Q E B F X N T hk hC1 hC2 hd hu hret
  exact dmp_okI w p loose mean mg mb T1 T2 rest a b ta tb hT ha hb hab hbb hcc rfl B F X N T hk hC1 hC2 hd hu hret
end
-- C10
theorem fresh_C10 : True := by
  w_top off
  exact trivial
section
theorem lt_two {x D : Addr} {o : Obj} {R : Led} (h : @LT.lt Nat _ x D ∧ AllLt D R) : ∀ p ∈ (x, o) :: R, p.1 < D :=
  List.forall_mem_cons.mpr ⟨h.1, fun p hp => tb_ltOf h.2 p hp⟩
theorem retDM2 {h₀ h' : Heap} {L x : Addr} {m : Str → Option Value} {rest T1 T2 big : Led} {s : Shared} {Q : Value → Shared → Prop} {q r q' r' : Int} {tq tr : Tok} {tk' : Nat}
    (hret : ∀ v news' h' tk', Fr h₀ L h' m → News h₀ L h' news' → OutDM rest q r v news' → Q v { s with heap := h', toks := tk' })
    (F : Fr h₀ L h' m) (N : News h₀ L h' ((x, tupO [.int q' tq, .int r' tr]) :: big)) (sub : ∀ p ∈ T1 ++ (T2 ++ rest), p ∈ big) (lt : ∀ p ∈ big, p.1 < x) (tabs : Tabs T1 T2 rest) (e : Pre (q' = q ∧ r' = r)) :
    Q (.ref x) { s with heap := h', toks := tk' } := by
  obtain ⟨rfl, rfl⟩ := e
  refine hret _ _ h' tk' F ?_ ⟨x, tq, tr, T1, T2, rfl, rfl, tabs, allLt_of fun p hp => lt p (sub p hp)⟩
  intro p hp
  rcases List.mem_cons.mp hp with rfl | hp
  · exact N _ (.head _)
  · exact N _ (.tail _ (sub p hp))
section
variable (w : World) (p : Program) (loose : List Str) (mean : ExcName → Option Value) (mg mb : Str → Option Value)
end
namespace CidposI
noncomputable def Pq (w : World) (p : Program) (loose : List Str) (mean : ExcName → Option Value) (mg : Str → Option Value) (mb : Str → Option Value) (T1 : Led) (T2 : Led) (rest : Led) (a : Int) (b : Int) (ta : Tok) (tb : Tok) (R : Led) (dp : Nat) (un : Nat) (gd : Option (List Code)) (cn : Str) (cs : Scope) (a' : Addr) (ccd : Value) (cl : List (Str × Addr)) (outer : List Env) (A₀ : Around) (base : Heap) (h₀ : Heap) (L : Addr) (m : Str → Option Value) (s : Shared) (Q : Value → Shared → Prop) (E : Value → Shared → Prop) : Prop := ∀ (hT : Tabs T1 T2 rest) (ha : 0 ≤ a) (hb : 0 < b) (hab : Builtin.Int.intBits a ≤ 2 ^ 15) (hbb : Builtin.Int.intBits b ≤ 2 ^ 15) (hR : T1 ++ (T2 ++ rest) = R) (B : Below A₀ base outer h₀) (F : Fr h₀ L s.heap m) (X : (hd.heap_39 w.params).In h₀) (N : News h₀ L s.heap R) (T : Top p loose mean mg mb h₀) (hk : cs.kind = .function) (hC1 : CodeHd h₀ 41 37) (hC2 : CodeHd h₀ 48 44) (hd : dp + 25 < recursionLimit) (hu : un + 308 < cLine) (hret : ∀ r news' h' tk', Fr h₀ L h' m → News h₀ L h' news' → (OutDM rest (a / b) (a % b)) r news' → Q r { s with heap := h', toks := tk' }),
    wpAny (model PySem.Challenge.pw_sr0065_01 w) (ktrTop dp un gd cn cs L a' ccd cl outer) (call (.ref 63) [.int a ta, .int b tb]) Q E s
noncomputable abbrev Tq : Type := (((((World × Program) × ((List Str) × (ExcName → Option Value))) × (((Str → Option Value) × (Str → Option Value)) × (Led × Led))) × (((Led × Int) × (Int × Tok)) × ((Tok × Led) × (Nat × Nat)))) × (((((Option (List Code)) × Str) × (Scope × Addr)) × ((Value × (List (Str × Addr))) × ((List Env) × Around))) × (((Heap × Heap) × (Addr × (Str → Option Value))) × ((Shared × (Value → Shared → Prop)) × (Value → Shared → Prop)))))
theorem exq : ∃ t : Tq, Pq t.1.1.1.1.1 t.1.1.1.1.2 t.1.1.1.2.1 t.1.1.1.2.2 t.1.1.2.1.1 t.1.1.2.1.2 t.1.1.2.2.1 t.1.1.2.2.2 t.1.2.1.1.1 t.1.2.1.1.2 t.1.2.1.2.1 t.1.2.1.2.2 t.1.2.2.1.1 t.1.2.2.1.2 t.1.2.2.2.1 t.1.2.2.2.2 t.2.1.1.1.1 t.2.1.1.1.2 t.2.1.1.2.1 t.2.1.1.2.2 t.2.1.2.1.1 t.2.1.2.1.2 t.2.1.2.2.1 t.2.1.2.2.2 t.2.2.1.1.1 t.2.2.1.1.2 t.2.2.1.2.1 t.2.2.1.2.2 t.2.2.2.1.1 t.2.2.2.1.2 t.2.2.2.2 → ∀ t : Tq, Pq t.1.1.1.1.1 t.1.1.1.1.2 t.1.1.1.2.1 t.1.1.1.2.2 t.1.1.2.1.1 t.1.1.2.1.2 t.1.1.2.2.1 t.1.1.2.2.2 t.1.2.1.1.1 t.1.2.1.1.2 t.1.2.1.2.1 t.1.2.1.2.2 t.1.2.2.1.1 t.1.2.2.1.2 t.1.2.2.2.1 t.1.2.2.2.2 t.2.1.1.1.1 t.2.1.1.1.2 t.2.1.1.2.1 t.2.1.1.2.2 t.2.1.2.1.1 t.2.1.2.1.2 t.2.1.2.2.1 t.2.1.2.2.2 t.2.2.1.1.1 t.2.2.1.1.2 t.2.2.1.2.1 t.2.2.1.2.2 t.2.2.2.1.1 t.2.2.2.1.2 t.2.2.2.2 := dk (α := Tq) ((((((aWorld 0, default), (default, (fun _ => default))), (((fun _ => default), (fun _ => default)), (default, default))), (((default, default), (default, default)), ((default, default), (default, default)))), ((((default, default), (default, default)), ((default, default), (default, ({} : Around)))), (((default, default), (default, (fun _ => default))), ((({} : Shared), (fun _ _ => True)), (fun _ _ => True)))))) _
noncomputable def cq : Tq := Classical.choose exq
@[irreducible] noncomputable def w : World := cq.1.1.1.1.1
@[irreducible] noncomputable def p : Program := cq.1.1.1.1.2
@[irreducible] noncomputable def loose : List Str := cq.1.1.1.2.1
@[irreducible] noncomputable def mean : ExcName → Option Value := cq.1.1.1.2.2
@[irreducible] noncomputable def mg : Str → Option Value := cq.1.1.2.1.1
@[irreducible] noncomputable def mb : Str → Option Value := cq.1.1.2.1.2
@[irreducible] noncomputable def T1 : Led := cq.1.1.2.2.1
@[irreducible] noncomputable def T2 : Led := cq.1.1.2.2.2
@[irreducible] noncomputable def rest : Led := cq.1.2.1.1.1
@[irreducible] noncomputable def a : Int := cq.1.2.1.1.2
@[irreducible] noncomputable def b : Int := cq.1.2.1.2.1
@[irreducible] noncomputable def ta : Tok := cq.1.2.1.2.2
@[irreducible] noncomputable def tb : Tok := cq.1.2.2.1.1
@[irreducible] noncomputable def R : Led := cq.1.2.2.1.2
@[irreducible] noncomputable def dp : Nat := cq.1.2.2.2.1
@[irreducible] noncomputable def un : Nat := cq.1.2.2.2.2
@[irreducible] noncomputable def gd : Option (List Code) := cq.2.1.1.1.1
@[irreducible] noncomputable def cn : Str := cq.2.1.1.1.2
@[irreducible] noncomputable def cs : Scope := cq.2.1.1.2.1
@[irreducible] noncomputable def a' : Addr := cq.2.1.1.2.2
@[irreducible] noncomputable def ccd : Value := cq.2.1.2.1.1
@[irreducible] noncomputable def cl : List (Str × Addr) := cq.2.1.2.1.2
@[irreducible] noncomputable def outer : List Env := cq.2.1.2.2.1
@[irreducible] noncomputable def A₀ : Around := cq.2.1.2.2.2
@[irreducible] noncomputable def base : Heap := cq.2.2.1.1.1
@[irreducible] noncomputable def h₀ : Heap := cq.2.2.1.1.2
@[irreducible] noncomputable def L : Addr := cq.2.2.1.2.1
@[irreducible] noncomputable def m : Str → Option Value := cq.2.2.1.2.2
@[irreducible] noncomputable def s : Shared := cq.2.2.2.1.1
@[irreducible] noncomputable def Q : Value → Shared → Prop := cq.2.2.2.1.2
@[irreducible] noncomputable def E : Value → Shared → Prop := cq.2.2.2.2
noncomputable def cutq : {G : Prop // (∀ (hT : Tabs T1 T2 rest) (ha : 0 ≤ a) (hb : 0 < b) (hab : Builtin.Int.intBits a ≤ 2 ^ 15) (hbb : Builtin.Int.intBits b ≤ 2 ^ 15) (hR : T1 ++ (T2 ++ rest) = R) (B : Below A₀ base outer h₀) (F : Fr h₀ L s.heap m) (X : (hd.heap_39 w.params).In h₀) (N : News h₀ L s.heap R) (T : Top p loose mean mg mb h₀) (hk : cs.kind = .function) (hC1 : CodeHd h₀ 41 37) (hC2 : CodeHd h₀ 48 44) (hd : dp + 25 < recursionLimit) (hu : un + 308 < cLine) (hret : ∀ r news' h' tk', Fr h₀ L h' m → News h₀ L h' news' → (OutDM rest (a / b) (a % b)) r news' → Q r { s with heap := h', toks := tk' }), G) → Pq w p loose mean mg mb T1 T2 rest a b ta tb R dp un gd cn cs a' ccd cl outer A₀ base h₀ L m s Q E} := ⟨_, fun h9z => by
  unfold Pq
  intro hT ha hb hab hbb hR B F X N T hk hC1 hC2 hd hu hret
  have h9y := fun (_ : Unit) => h9z hT ha hb hab hbb hR B F X N T hk hC1 hC2 hd hu hret
  refine wpAny_call ?_
  (k_dflt (refine' code_def ?k1u8 ?k2u8 ?k3u8 ?k4u8 ?k5u8 ?kAu8 ?kFu8 ?kKu8 ?k6u8 ?k7u8 ?k8u8 ?k9u8 ?kBu8 ?_ ?c2u8 ?c3u8 ?c4u8 ?c5u8; (case kAu8 => exact rfl); (case kFu8 => exact rfl); (case kKu8 => assumption); (case k1u8 | k2u8 | k3u8 | k4u8 | k5u8 => k_asm); (case k6u8 => k_is); (case k7u8 => k_is); (case k8u8 => ktr_room); (case k9u8 => exact BindsTo.of_eq rfl); (case c5u8 => decide); (case kBu8 => exact locs rfl); (case c2u8 => exact rfl); (case c3u8 => exact rfl); (case c4u8 => exact rfl); k_whole; intro gz Lz hz FGz Fz Nz Bz Xz Tz; (have Cz := CodeHd.keeps (c := 41) (P := 37) (by assumption) (Fr.keep FGz)); (have Dz := CodeHd.keeps (c := 48) (P := 44) (by assumption) (Fr.keep FGz)); (try dsimp only); (try k_fold)))
  revert Dz
  revert Cz
  revert Tz
  revert Xz
  revert Bz
  revert Nz
  revert Fz
  revert FGz
  revert hz
  revert Lz
  revert gz
  exact h9y ()⟩
noncomputable def pcq : {Pc : Heap → Addr → Heap → Prop // (∀ a b c, Pc a b c) → cutq.1} := ⟨_, fun h => h⟩
theorem exc : ∃ t : ((Heap × Addr) × Heap), pcq.1 t.1.1 t.1.2 t.2 → ∀ t : ((Heap × Addr) × Heap), pcq.1 t.1.1 t.1.2 t.2 := dk (α := ((Heap × Addr) × Heap)) ((default, default), default) _
noncomputable def ccq : ((Heap × Addr) × Heap) := Classical.choose exc
@[irreducible] noncomputable def gz : Heap := ccq.1.1
@[irreducible] noncomputable def Lz : Addr := ccq.1.2
@[irreducible] noncomputable def hz : Heap := ccq.2
theorem core2 (hT : Tabs T1 T2 rest) (ha : 0 ≤ a) (hb : 0 < b) (hab : Builtin.Int.intBits a ≤ 2 ^ 15) (hbb : Builtin.Int.intBits b ≤ 2 ^ 15) (hR : T1 ++ (T2 ++ rest) = R) (B : Below A₀ base outer h₀) (F : Fr h₀ L s.heap m) (X : (hd.heap_39 w.params).In h₀) (N : News h₀ L s.heap R) (T : Top p loose mean mg mb h₀) (hk : cs.kind = .function) (hC1 : CodeHd h₀ 41 37) (hC2 : CodeHd h₀ 48 44) (hd : dp + 25 < recursionLimit) (hu : un + 308 < cLine) (hret : ∀ r news' h' tk', Fr h₀ L h' m → News h₀ L h' news' → (OutDM rest (a / b) (a % b)) r news' → Q r { s with heap := h', toks := tk' }) : pcq.1 gz Lz hz := by
  have hn1 : 1 ≤ Builtin.Int.intBits b := intBits_ge_of (k := 0) (by rw [Int.pow_zero]; omega)
  have hcl := cnt_le (a := a) (n := (Builtin.Int.intBits b : Int)) (by omega)
  intro FGz Fz Nz Bz Xz Tz Cz Dz
  walk_at "STEPS"
  k_dflt refine' CallOkC.use (dmp_ok w p loose mean mg mb T1 T2 rest a b ta tb hT ha hb hab hbb (by omega)) ?k1 ?k2 ?k3 ?k4 ?ks ?k5 ?k6 ?kc1 ?kc2 ?k7 ?k8 ?_
  walk_at "KS"
  case ks => (rw [hR]; exact fun p hp => hp)
  intro r1 news1 h1 tk1 F1 N1 ho
  (try dsimp only); (try k_fold)
  walk_at "STEPS"
  all_goals (refine hret _ _ _ _ (by k_asm) (by k_asm) ho)
theorem coreq : Pq w p loose mean mg mb T1 T2 rest a b ta tb R dp un gd cn cs a' ccd cl outer A₀ base h₀ L m s Q E := by
  with_unfolding_all exact cutq.2 fun hT ha hb hab hbb hR B F X N T hk hC1 hC2 hd hu hret => pcq.2 fun a b c => Classical.choose_spec exc (core2 hT ha hb hab hbb hR B F X N T hk hC1 hC2 hd hu hret) ((a, b), c)
theorem allq (w : World) (p : Program) (loose : List Str) (mean : ExcName → Option Value) (mg : Str → Option Value) (mb : Str → Option Value) (T1 : Led) (T2 : Led) (rest : Led) (a : Int) (b : Int) (ta : Tok) (tb : Tok) (R : Led) (dp : Nat) (un : Nat) (gd : Option (List Code)) (cn : Str) (cs : Scope) (a' : Addr) (ccd : Value) (cl : List (Str × Addr)) (outer : List Env) (A₀ : Around) (base : Heap) (h₀ : Heap) (L : Addr) (m : Str → Option Value) (s : Shared) (Q : Value → Shared → Prop) (E : Value → Shared → Prop) : Pq w p loose mean mg mb T1 T2 rest a b ta tb R dp un gd cn cs a' ccd cl outer A₀ base h₀ L m s Q E := by
  with_unfolding_all exact Classical.choose_spec exq coreq (((((w, p), (loose, mean)), ((mg, mb), (T1, T2))), (((rest, a), (b, ta)), ((tb, R), (dp, un)))), ((((gd, cn), (cs, a')), ((ccd, cl), (outer, A₀))), (((base, h₀), (L, m)), ((s, Q), E))))
end CidposI
section
variable (w : World) (p : Program) (loose : List Str) (mean : ExcName → Option Value) (mg mb : Str → Option Value)
theorem id_posI (T1 T2 rest : Led) (a b : Int) (ta tb : Tok) (hT : Tabs T1 T2 rest) (ha : 0 ≤ a) (hb : 0 < b) (hab : Builtin.Int.intBits a ≤ 2 ^ 15) (hbb : Builtin.Int.intBits b ≤ 2 ^ 15) {R : Led} (hR : T1 ++ (T2 ++ rest) = R) {dp : Nat} {un : Nat} {gd : Option (List Code)} {cn : Str} {cs : Scope} {a' : Addr} {ccd : Value} {cl : List (Str × Addr)} {outer : List Env} {A₀ : Around} {base : Heap} {h₀ : Heap} {L : Addr} {m : Str → Option Value} {s : Shared} {Q : Value → Shared → Prop} {E : Value → Shared → Prop}
    (B : Below A₀ base outer h₀) (F : Fr h₀ L s.heap m) (X : (hd.heap_39 w.params).In h₀) (N : News h₀ L s.heap R) (T : Top p loose mean mg mb h₀) (hk : cs.kind = .function) (hC1 : CodeHd h₀ 41 37) (hC2 : CodeHd h₀ 48 44) (hd : dp + 25 < recursionLimit) (hu : un + 308 < cLine) (hret : ∀ r news' h' tk', Fr h₀ L h' m → News h₀ L h' news' → (OutDM rest (a / b) (a % b)) r news' → Q r { s with heap := h', toks := tk' }) :
    wpAny (model PySem.Challenge.pw_sr0065_01 w) (ktrTop dp un gd cn cs L a' ccd cl outer) (call (.ref 63) [.int a ta, .int b tb]) Q E s :=
  CidposI.allq w p loose mean mg mb T1 T2 rest a b ta tb R dp un gd cn cs a' ccd cl outer A₀ base h₀ L m s Q E hT ha hb hab hbb hR B F X N T hk hC1 hC2 hd hu hret
theorem id_pos (T1 T2 rest : Led) (a b : Int) (ta tb : Tok) (hT : Tabs T1 T2 rest) (ha : 0 ≤ a) (hb : 0 < b) (hab : Builtin.Int.intBits a ≤ 2 ^ 15) (hbb : Builtin.Int.intBits b ≤ 2 ^ 15) :
   CallOkC w p loose mean mg mb 63 [.int a ta, .int b tb] 25 308 (T1 ++ (T2 ++ rest)) (OutDM rest (a / b) (a % b)) := by
  unfold CallOkC
  intro dp un gd cn cs a' ccd cl outer A₀ base h₀ L m s Q E B F X N T hk hC1 hC2 hd hu hret
  exact id_posI w p loose mean mg mb T1 T2 rest a b ta tb hT ha hb hab hbb rfl B F X N T hk hC1 hC2 hd hu hret
end
namespace CidnegI
noncomputable def Pq (w : World) (p : Program) (loose : List Str) (mean : ExcName → Option Value) (mg : Str → Option Value) (mb : Str → Option Value) (T1 : Led) (T2 : Led) (rest : Led) (a : Int) (b : Int) (ta : Tok) (tb : Tok) (R : Led) (dp : Nat) (un : Nat) (gd : Option (List Code)) (cn : Str) (cs : Scope) (a' : Addr) (ccd : Value) (cl : List (Str × Addr)) (outer : List Env) (A₀ : Around) (base : Heap) (h₀ : Heap) (L : Addr) (m : Str → Option Value) (s : Shared) (Q : Value → Shared → Prop) (E : Value → Shared → Prop) : Prop := ∀ (hT : Tabs T1 T2 rest) (ha : a < 0) (hb : 0 < b) (hab : Builtin.Int.intBits a ≤ 2 ^ 15) (hbb : Builtin.Int.intBits b ≤ 2 ^ 15) (hR : T1 ++ (T2 ++ rest) = R) (B : Below A₀ base outer h₀) (F : Fr h₀ L s.heap m) (X : (hd.heap_39 w.params).In h₀) (N : News h₀ L s.heap R) (T : Top p loose mean mg mb h₀) (hk : cs.kind = .function) (hC1 : CodeHd h₀ 41 37) (hC2 : CodeHd h₀ 48 44) (hd : dp + 26 < recursionLimit) (hu : un + 316 < cLine) (hret : ∀ r news' h' tk', Fr h₀ L h' m → News h₀ L h' news' → (OutDM rest (a / b) (a % b)) r news' → Q r { s with heap := h', toks := tk' }),
    wpAny (model PySem.Challenge.pw_sr0065_01 w) (ktrTop dp un gd cn cs L a' ccd cl outer) (call (.ref 63) [.int a ta, .int b tb]) Q E s
noncomputable abbrev Tq : Type := (((((World × Program) × ((List Str) × (ExcName → Option Value))) × (((Str → Option Value) × (Str → Option Value)) × (Led × Led))) × (((Led × Int) × (Int × Tok)) × ((Tok × Led) × (Nat × Nat)))) × (((((Option (List Code)) × Str) × (Scope × Addr)) × ((Value × (List (Str × Addr))) × ((List Env) × Around))) × (((Heap × Heap) × (Addr × (Str → Option Value))) × ((Shared × (Value → Shared → Prop)) × (Value → Shared → Prop)))))
theorem exq : ∃ t : Tq, Pq t.1.1.1.1.1 t.1.1.1.1.2 t.1.1.1.2.1 t.1.1.1.2.2 t.1.1.2.1.1 t.1.1.2.1.2 t.1.1.2.2.1 t.1.1.2.2.2 t.1.2.1.1.1 t.1.2.1.1.2 t.1.2.1.2.1 t.1.2.1.2.2 t.1.2.2.1.1 t.1.2.2.1.2 t.1.2.2.2.1 t.1.2.2.2.2 t.2.1.1.1.1 t.2.1.1.1.2 t.2.1.1.2.1 t.2.1.1.2.2 t.2.1.2.1.1 t.2.1.2.1.2 t.2.1.2.2.1 t.2.1.2.2.2 t.2.2.1.1.1 t.2.2.1.1.2 t.2.2.1.2.1 t.2.2.1.2.2 t.2.2.2.1.1 t.2.2.2.1.2 t.2.2.2.2 → ∀ t : Tq, Pq t.1.1.1.1.1 t.1.1.1.1.2 t.1.1.1.2.1 t.1.1.1.2.2 t.1.1.2.1.1 t.1.1.2.1.2 t.1.1.2.2.1 t.1.1.2.2.2 t.1.2.1.1.1 t.1.2.1.1.2 t.1.2.1.2.1 t.1.2.1.2.2 t.1.2.2.1.1 t.1.2.2.1.2 t.1.2.2.2.1 t.1.2.2.2.2 t.2.1.1.1.1 t.2.1.1.1.2 t.2.1.1.2.1 t.2.1.1.2.2 t.2.1.2.1.1 t.2.1.2.1.2 t.2.1.2.2.1 t.2.1.2.2.2 t.2.2.1.1.1 t.2.2.1.1.2 t.2.2.1.2.1 t.2.2.1.2.2 t.2.2.2.1.1 t.2.2.2.1.2 t.2.2.2.2 := dk (α := Tq) ((((((aWorld 0, default), (default, (fun _ => default))), (((fun _ => default), (fun _ => default)), (default, default))), (((default, default), (default, default)), ((default, default), (default, default)))), ((((default, default), (default, default)), ((default, default), (default, ({} : Around)))), (((default, default), (default, (fun _ => default))), ((({} : Shared), (fun _ _ => True)), (fun _ _ => True)))))) _
noncomputable def cq : Tq := Classical.choose exq
@[irreducible] noncomputable def w : World := cq.1.1.1.1.1
@[irreducible] noncomputable def p : Program := cq.1.1.1.1.2
@[irreducible] noncomputable def loose : List Str := cq.1.1.1.2.1
@[irreducible] noncomputable def mean : ExcName → Option Value := cq.1.1.1.2.2
@[irreducible] noncomputable def mg : Str → Option Value := cq.1.1.2.1.1
@[irreducible] noncomputable def mb : Str → Option Value := cq.1.1.2.1.2
@[irreducible] noncomputable def T1 : Led := cq.1.1.2.2.1
@[irreducible] noncomputable def T2 : Led := cq.1.1.2.2.2
@[irreducible] noncomputable def rest : Led := cq.1.2.1.1.1
@[irreducible] noncomputable def a : Int := cq.1.2.1.1.2
@[irreducible] noncomputable def b : Int := cq.1.2.1.2.1
@[irreducible] noncomputable def ta : Tok := cq.1.2.1.2.2
@[irreducible] noncomputable def tb : Tok := cq.1.2.2.1.1
@[irreducible] noncomputable def R : Led := cq.1.2.2.1.2
@[irreducible] noncomputable def dp : Nat := cq.1.2.2.2.1
@[irreducible] noncomputable def un : Nat := cq.1.2.2.2.2
@[irreducible] noncomputable def gd : Option (List Code) := cq.2.1.1.1.1
@[irreducible] noncomputable def cn : Str := cq.2.1.1.1.2
@[irreducible] noncomputable def cs : Scope := cq.2.1.1.2.1
@[irreducible] noncomputable def a' : Addr := cq.2.1.1.2.2
@[irreducible] noncomputable def ccd : Value := cq.2.1.2.1.1
@[irreducible] noncomputable def cl : List (Str × Addr) := cq.2.1.2.1.2
@[irreducible] noncomputable def outer : List Env := cq.2.1.2.2.1
@[irreducible] noncomputable def A₀ : Around := cq.2.1.2.2.2
@[irreducible] noncomputable def base : Heap := cq.2.2.1.1.1
@[irreducible] noncomputable def h₀ : Heap := cq.2.2.1.1.2
@[irreducible] noncomputable def L : Addr := cq.2.2.1.2.1
@[irreducible] noncomputable def m : Str → Option Value := cq.2.2.1.2.2
@[irreducible] noncomputable def s : Shared := cq.2.2.2.1.1
@[irreducible] noncomputable def Q : Value → Shared → Prop := cq.2.2.2.1.2
@[irreducible] noncomputable def E : Value → Shared → Prop := cq.2.2.2.2
noncomputable def cutq : {G : Prop // (∀ (hT : Tabs T1 T2 rest) (ha : a < 0) (hb : 0 < b) (hab : Builtin.Int.intBits a ≤ 2 ^ 15) (hbb : Builtin.Int.intBits b ≤ 2 ^ 15) (hR : T1 ++ (T2 ++ rest) = R) (B : Below A₀ base outer h₀) (F : Fr h₀ L s.heap m) (X : (hd.heap_39 w.params).In h₀) (N : News h₀ L s.heap R) (T : Top p loose mean mg mb h₀) (hk : cs.kind = .function) (hC1 : CodeHd h₀ 41 37) (hC2 : CodeHd h₀ 48 44) (hd : dp + 26 < recursionLimit) (hu : un + 316 < cLine) (hret : ∀ r news' h' tk', Fr h₀ L h' m → News h₀ L h' news' → (OutDM rest (a / b) (a % b)) r news' → Q r { s with heap := h', toks := tk' }), G) → Pq w p loose mean mg mb T1 T2 rest a b ta tb R dp un gd cn cs a' ccd cl outer A₀ base h₀ L m s Q E} := ⟨_, fun h9z => by
  unfold Pq
  intro hT ha hb hab hbb hR B F X N T hk hC1 hC2 hd hu hret
  have h9y := fun (_ : Unit) => h9z hT ha hb hab hbb hR B F X N T hk hC1 hC2 hd hu hret
  refine wpAny_call ?_
  (k_dflt (refine' code_def ?k1u9 ?k2u9 ?k3u9 ?k4u9 ?k5u9 ?kAu9 ?kFu9 ?kKu9 ?k6u9 ?k7u9 ?k8u9 ?k9u9 ?kBu9 ?_ ?c2u9 ?c3u9 ?c4u9 ?c5u9; (case kAu9 => exact rfl); (case kFu9 => exact rfl); (case kKu9 => assumption); (case k1u9 | k2u9 | k3u9 | k4u9 | k5u9 => k_asm); (case k6u9 => k_is); (case k7u9 => k_is); (case k8u9 => ktr_room); (case k9u9 => exact BindsTo.of_eq rfl); (case c5u9 => decide); (case kBu9 => exact locs rfl); (case c2u9 => exact rfl); (case c3u9 => exact rfl); (case c4u9 => exact rfl); k_whole; intro gz Lz hz FGz Fz Nz Bz Xz Tz; (have Cz := CodeHd.keeps (c := 41) (P := 37) (by assumption) (Fr.keep FGz)); (have Dz := CodeHd.keeps (c := 48) (P := 44) (by assumption) (Fr.keep FGz)); (try dsimp only); (try k_fold)))
  revert Dz
  revert Cz
  revert Tz
  revert Xz
  revert Bz
  revert Nz
  revert Fz
  revert FGz
  revert hz
  revert Lz
  revert gz
  exact h9y ()⟩
noncomputable def pcq : {Pc : Heap → Addr → Heap → Prop // (∀ a b c, Pc a b c) → cutq.1} := ⟨_, fun h => h⟩
theorem exc : ∃ t : ((Heap × Addr) × Heap), pcq.1 t.1.1 t.1.2 t.2 → ∀ t : ((Heap × Addr) × Heap), pcq.1 t.1.1 t.1.2 t.2 := dk (α := ((Heap × Addr) × Heap)) ((default, default), default) _
noncomputable def ccq : ((Heap × Addr) × Heap) := Classical.choose exc
@[irreducible] noncomputable def gz : Heap := ccq.1.1
@[irreducible] noncomputable def Lz : Addr := ccq.1.2
@[irreducible] noncomputable def hz : Heap := ccq.2
theorem core2 (hT : Tabs T1 T2 rest) (ha : a < 0) (hb : 0 < b) (hab : Builtin.Int.intBits a ≤ 2 ^ 15) (hbb : Builtin.Int.intBits b ≤ 2 ^ 15) (hR : T1 ++ (T2 ++ rest) = R) (B : Below A₀ base outer h₀) (F : Fr h₀ L s.heap m) (X : (hd.heap_39 w.params).In h₀) (N : News h₀ L s.heap R) (T : Top p loose mean mg mb h₀) (hk : cs.kind = .function) (hC1 : CodeHd h₀ 41 37) (hC2 : CodeHd h₀ 48 44) (hd : dp + 26 < recursionLimit) (hu : un + 316 < cLine) (hret : ∀ r news' h' tk', Fr h₀ L h' m → News h₀ L h' news' → (OutDM rest (a / b) (a % b)) r news' → Q r { s with heap := h', toks := tk' }) : pcq.1 gz Lz hz := by
  have hab' : Builtin.Int.intBits (-a - 1) ≤ 2 ^ 15 := Nat.le_trans (intBits_mono (by omega) (show -a - 1 ≤ -a by omega)) (by rw [intBits_neg]; exact hab)
  intro FGz Fz Nz Bz Xz Tz Cz Dz
  walk_at "STEPS"
  k_dflt refine' CallOkC.use (id_pos w p loose mean mg mb T1 T2 rest (-a - 1) b _ _ hT (by omega) hb hab' hbb) ?k1 ?k2 ?k3 ?k4 ?ks ?k5 ?k6 ?kc1 ?kc2 ?k7 ?k8 ?_
  walk_at "KS"
  case ks => (rw [hR]; exact fun p hp => hp)
  intro r1 news1 h1 tk1 F1 N1 ho
  obtain ⟨x, tq, tr, U1, U2, rfl, rfl, hT2, hlt⟩ := ho
  generalize hR2 : U1 ++ (U2 ++ rest) = R2 at *
  (try dsimp only); (try k_fold)
  (try simp only [List.cons_append, List.nil_append] at N1)
  (try simp only [AllLt, and_true] at hlt)
  walk_at "STEPS"
  all_goals (refine retDM2 hret (by k_asm) (by k_asm) (by rw [hR2]; walk_at "SUB") (by first | walk_at "LT" | exact lt_two (by assumption)) hT2 ?_)
  all_goals (show _ ∧ _)
  all_goals (have e := div_compl (a := a) hb; simp only [Builtin.bitNot] at *; omega)
theorem coreq : Pq w p loose mean mg mb T1 T2 rest a b ta tb R dp un gd cn cs a' ccd cl outer A₀ base h₀ L m s Q E := by
  with_unfolding_all exact cutq.2 fun hT ha hb hab hbb hR B F X N T hk hC1 hC2 hd hu hret => pcq.2 fun a b c => Classical.choose_spec exc (core2 hT ha hb hab hbb hR B F X N T hk hC1 hC2 hd hu hret) ((a, b), c)
theorem allq (w : World) (p : Program) (loose : List Str) (mean : ExcName → Option Value) (mg : Str → Option Value) (mb : Str → Option Value) (T1 : Led) (T2 : Led) (rest : Led) (a : Int) (b : Int) (ta : Tok) (tb : Tok) (R : Led) (dp : Nat) (un : Nat) (gd : Option (List Code)) (cn : Str) (cs : Scope) (a' : Addr) (ccd : Value) (cl : List (Str × Addr)) (outer : List Env) (A₀ : Around) (base : Heap) (h₀ : Heap) (L : Addr) (m : Str → Option Value) (s : Shared) (Q : Value → Shared → Prop) (E : Value → Shared → Prop) : Pq w p loose mean mg mb T1 T2 rest a b ta tb R dp un gd cn cs a' ccd cl outer A₀ base h₀ L m s Q E := by
  with_unfolding_all exact Classical.choose_spec exq coreq (((((w, p), (loose, mean)), ((mg, mb), (T1, T2))), (((rest, a), (b, ta)), ((tb, R), (dp, un)))), ((((gd, cn), (cs, a')), ((ccd, cl), (outer, A₀))), (((base, h₀), (L, m)), ((s, Q), E))))
end CidnegI
section
variable (w : World) (p : Program) (loose : List Str) (mean : ExcName → Option Value) (mg mb : Str → Option Value)
theorem id_negI (T1 T2 rest : Led) (a b : Int) (ta tb : Tok) (hT : Tabs T1 T2 rest) (ha : a < 0) (hb : 0 < b) (hab : Builtin.Int.intBits a ≤ 2 ^ 15) (hbb : Builtin.Int.intBits b ≤ 2 ^ 15) {R : Led} (hR : T1 ++ (T2 ++ rest) = R) {dp : Nat} {un : Nat} {gd : Option (List Code)} {cn : Str} {cs : Scope} {a' : Addr} {ccd : Value} {cl : List (Str × Addr)} {outer : List Env} {A₀ : Around} {base : Heap} {h₀ : Heap} {L : Addr} {m : Str → Option Value} {s : Shared} {Q : Value → Shared → Prop} {E : Value → Shared → Prop}
    (B : Below A₀ base outer h₀) (F : Fr h₀ L s.heap m) (X : (hd.heap_39 w.params).In h₀) (N : News h₀ L s.heap R) (T : Top p loose mean mg mb h₀) (hk : cs.kind = .function) (hC1 : CodeHd h₀ 41 37) (hC2 : CodeHd h₀ 48 44) (hd : dp + 26 < recursionLimit) (hu : un + 316 < cLine) (hret : ∀ r news' h' tk', Fr h₀ L h' m → News h₀ L h' news' → (OutDM rest (a / b) (a % b)) r news' → Q r { s with heap := h', toks := tk' }) :
    wpAny (model PySem.Challenge.pw_sr0065_01 w) (ktrTop dp un gd cn cs L a' ccd cl outer) (call (.ref 63) [.int a ta, .int b tb]) Q E s :=
  CidnegI.allq w p loose mean mg mb T1 T2 rest a b ta tb R dp un gd cn cs a' ccd cl outer A₀ base h₀ L m s Q E hT ha hb hab hbb hR B F X N T hk hC1 hC2 hd hu hret
theorem id_neg (T1 T2 rest : Led) (a b : Int) (ta tb : Tok) (hT : Tabs T1 T2 rest) (ha : a < 0) (hb : 0 < b) (hab : Builtin.Int.intBits a ≤ 2 ^ 15) (hbb : Builtin.Int.intBits b ≤ 2 ^ 15) :
   CallOkC w p loose mean mg mb 63 [.int a ta, .int b tb] 26 316 (T1 ++ (T2 ++ rest)) (OutDM rest (a / b) (a % b)) := by
  unfold CallOkC
  intro dp un gd cn cs a' ccd cl outer A₀ base h₀ L m s Q E B F X N T hk hC1 hC2 hd hu hret
  exact id_negI w p loose mean mg mb T1 T2 rest a b ta tb hT ha hb hab hbb rfl B F X N T hk hC1 hC2 hd hu hret
end
namespace CidbnegI
noncomputable def Pq (w : World) (p : Program) (loose : List Str) (mean : ExcName → Option Value) (mg : Str → Option Value) (mb : Str → Option Value) (T1 : Led) (T2 : Led) (rest : Led) (a : Int) (b : Int) (ta : Tok) (tb : Tok) (R : Led) (dp : Nat) (un : Nat) (gd : Option (List Code)) (cn : Str) (cs : Scope) (a' : Addr) (ccd : Value) (cl : List (Str × Addr)) (outer : List Env) (A₀ : Around) (base : Heap) (h₀ : Heap) (L : Addr) (m : Str → Option Value) (s : Shared) (Q : Value → Shared → Prop) (E : Value → Shared → Prop) : Prop := ∀ (hT : Tabs T1 T2 rest) (hb : b < 0) (hab : Builtin.Int.intBits a ≤ 2 ^ 15) (hbb : Builtin.Int.intBits b ≤ 2 ^ 15) (hR : T1 ++ (T2 ++ rest) = R) (B : Below A₀ base outer h₀) (F : Fr h₀ L s.heap m) (X : (hd.heap_39 w.params).In h₀) (N : News h₀ L s.heap R) (T : Top p loose mean mg mb h₀) (hk : cs.kind = .function) (hC1 : CodeHd h₀ 41 37) (hC2 : CodeHd h₀ 48 44) (hd : dp + 27 < recursionLimit) (hu : un + 324 < cLine) (hret : ∀ r news' h' tk', Fr h₀ L h' m → News h₀ L h' news' → (OutDM rest ((-a) / (-b)) (-((-a) % (-b)))) r news' → Q r { s with heap := h', toks := tk' }),
    wpAny (model PySem.Challenge.pw_sr0065_01 w) (ktrTop dp un gd cn cs L a' ccd cl outer) (call (.ref 63) [.int a ta, .int b tb]) Q E s
noncomputable abbrev Tq : Type := (((((World × Program) × ((List Str) × (ExcName → Option Value))) × (((Str → Option Value) × (Str → Option Value)) × (Led × Led))) × (((Led × Int) × (Int × Tok)) × ((Tok × Led) × (Nat × Nat)))) × (((((Option (List Code)) × Str) × (Scope × Addr)) × ((Value × (List (Str × Addr))) × ((List Env) × Around))) × (((Heap × Heap) × (Addr × (Str → Option Value))) × ((Shared × (Value → Shared → Prop)) × (Value → Shared → Prop)))))
theorem exq : ∃ t : Tq, Pq t.1.1.1.1.1 t.1.1.1.1.2 t.1.1.1.2.1 t.1.1.1.2.2 t.1.1.2.1.1 t.1.1.2.1.2 t.1.1.2.2.1 t.1.1.2.2.2 t.1.2.1.1.1 t.1.2.1.1.2 t.1.2.1.2.1 t.1.2.1.2.2 t.1.2.2.1.1 t.1.2.2.1.2 t.1.2.2.2.1 t.1.2.2.2.2 t.2.1.1.1.1 t.2.1.1.1.2 t.2.1.1.2.1 t.2.1.1.2.2 t.2.1.2.1.1 t.2.1.2.1.2 t.2.1.2.2.1 t.2.1.2.2.2 t.2.2.1.1.1 t.2.2.1.1.2 t.2.2.1.2.1 t.2.2.1.2.2 t.2.2.2.1.1 t.2.2.2.1.2 t.2.2.2.2 → ∀ t : Tq, Pq t.1.1.1.1.1 t.1.1.1.1.2 t.1.1.1.2.1 t.1.1.1.2.2 t.1.1.2.1.1 t.1.1.2.1.2 t.1.1.2.2.1 t.1.1.2.2.2 t.1.2.1.1.1 t.1.2.1.1.2 t.1.2.1.2.1 t.1.2.1.2.2 t.1.2.2.1.1 t.1.2.2.1.2 t.1.2.2.2.1 t.1.2.2.2.2 t.2.1.1.1.1 t.2.1.1.1.2 t.2.1.1.2.1 t.2.1.1.2.2 t.2.1.2.1.1 t.2.1.2.1.2 t.2.1.2.2.1 t.2.1.2.2.2 t.2.2.1.1.1 t.2.2.1.1.2 t.2.2.1.2.1 t.2.2.1.2.2 t.2.2.2.1.1 t.2.2.2.1.2 t.2.2.2.2 := dk (α := Tq) ((((((aWorld 0, default), (default, (fun _ => default))), (((fun _ => default), (fun _ => default)), (default, default))), (((default, default), (default, default)), ((default, default), (default, default)))), ((((default, default), (default, default)), ((default, default), (default, ({} : Around)))), (((default, default), (default, (fun _ => default))), ((({} : Shared), (fun _ _ => True)), (fun _ _ => True)))))) _
noncomputable def cq : Tq := Classical.choose exq
@[irreducible] noncomputable def w : World := cq.1.1.1.1.1
@[irreducible] noncomputable def p : Program := cq.1.1.1.1.2
@[irreducible] noncomputable def loose : List Str := cq.1.1.1.2.1
@[irreducible] noncomputable def mean : ExcName → Option Value := cq.1.1.1.2.2
@[irreducible] noncomputable def mg : Str → Option Value := cq.1.1.2.1.1
@[irreducible] noncomputable def mb : Str → Option Value := cq.1.1.2.1.2
@[irreducible] noncomputable def T1 : Led := cq.1.1.2.2.1
@[irreducible] noncomputable def T2 : Led := cq.1.1.2.2.2
@[irreducible] noncomputable def rest : Led := cq.1.2.1.1.1
@[irreducible] noncomputable def a : Int := cq.1.2.1.1.2
@[irreducible] noncomputable def b : Int := cq.1.2.1.2.1
@[irreducible] noncomputable def ta : Tok := cq.1.2.1.2.2
@[irreducible] noncomputable def tb : Tok := cq.1.2.2.1.1
@[irreducible] noncomputable def R : Led := cq.1.2.2.1.2
@[irreducible] noncomputable def dp : Nat := cq.1.2.2.2.1
@[irreducible] noncomputable def un : Nat := cq.1.2.2.2.2
@[irreducible] noncomputable def gd : Option (List Code) := cq.2.1.1.1.1
@[irreducible] noncomputable def cn : Str := cq.2.1.1.1.2
@[irreducible] noncomputable def cs : Scope := cq.2.1.1.2.1
@[irreducible] noncomputable def a' : Addr := cq.2.1.1.2.2
@[irreducible] noncomputable def ccd : Value := cq.2.1.2.1.1
@[irreducible] noncomputable def cl : List (Str × Addr) := cq.2.1.2.1.2
@[irreducible] noncomputable def outer : List Env := cq.2.1.2.2.1
@[irreducible] noncomputable def A₀ : Around := cq.2.1.2.2.2
@[irreducible] noncomputable def base : Heap := cq.2.2.1.1.1
@[irreducible] noncomputable def h₀ : Heap := cq.2.2.1.1.2
@[irreducible] noncomputable def L : Addr := cq.2.2.1.2.1
@[irreducible] noncomputable def m : Str → Option Value := cq.2.2.1.2.2
@[irreducible] noncomputable def s : Shared := cq.2.2.2.1.1
@[irreducible] noncomputable def Q : Value → Shared → Prop := cq.2.2.2.1.2
@[irreducible] noncomputable def E : Value → Shared → Prop := cq.2.2.2.2
noncomputable def cutq : {G : Prop // (∀ (hT : Tabs T1 T2 rest) (hb : b < 0) (hab : Builtin.Int.intBits a ≤ 2 ^ 15) (hbb : Builtin.Int.intBits b ≤ 2 ^ 15) (hR : T1 ++ (T2 ++ rest) = R) (B : Below A₀ base outer h₀) (F : Fr h₀ L s.heap m) (X : (hd.heap_39 w.params).In h₀) (N : News h₀ L s.heap R) (T : Top p loose mean mg mb h₀) (hk : cs.kind = .function) (hC1 : CodeHd h₀ 41 37) (hC2 : CodeHd h₀ 48 44) (hd : dp + 27 < recursionLimit) (hu : un + 324 < cLine) (hret : ∀ r news' h' tk', Fr h₀ L h' m → News h₀ L h' news' → (OutDM rest ((-a) / (-b)) (-((-a) % (-b)))) r news' → Q r { s with heap := h', toks := tk' }), G) → Pq w p loose mean mg mb T1 T2 rest a b ta tb R dp un gd cn cs a' ccd cl outer A₀ base h₀ L m s Q E} := ⟨_, fun h9z => by
  unfold Pq
  intro hT hb hab hbb hR B F X N T hk hC1 hC2 hd hu hret
  have h9y := fun (_ : Unit) => h9z hT hb hab hbb hR B F X N T hk hC1 hC2 hd hu hret
  refine wpAny_call ?_
  (k_dflt (refine' code_def ?k1u10 ?k2u10 ?k3u10 ?k4u10 ?k5u10 ?kAu10 ?kFu10 ?kKu10 ?k6u10 ?k7u10 ?k8u10 ?k9u10 ?kBu10 ?_ ?c2u10 ?c3u10 ?c4u10 ?c5u10; (case kAu10 => exact rfl); (case kFu10 => exact rfl); (case kKu10 => assumption); (case k1u10 | k2u10 | k3u10 | k4u10 | k5u10 => k_asm); (case k6u10 => k_is); (case k7u10 => k_is); (case k8u10 => ktr_room); (case k9u10 => exact BindsTo.of_eq rfl); (case c5u10 => decide); (case kBu10 => exact locs rfl); (case c2u10 => exact rfl); (case c3u10 => exact rfl); (case c4u10 => exact rfl); k_whole; intro gz Lz hz FGz Fz Nz Bz Xz Tz; (have Cz := CodeHd.keeps (c := 41) (P := 37) (by assumption) (Fr.keep FGz)); (have Dz := CodeHd.keeps (c := 48) (P := 44) (by assumption) (Fr.keep FGz)); (try dsimp only); (try k_fold)))
  revert Dz
  revert Cz
  revert Tz
  revert Xz
  revert Bz
  revert Nz
  revert Fz
  revert FGz
  revert hz
  revert Lz
  revert gz
  exact h9y ()⟩
noncomputable def pcq : {Pc : Heap → Addr → Heap → Prop // (∀ a b c, Pc a b c) → cutq.1} := ⟨_, fun h => h⟩
theorem exc : ∃ t : ((Heap × Addr) × Heap), pcq.1 t.1.1 t.1.2 t.2 → ∀ t : ((Heap × Addr) × Heap), pcq.1 t.1.1 t.1.2 t.2 := dk (α := ((Heap × Addr) × Heap)) ((default, default), default) _
noncomputable def ccq : ((Heap × Addr) × Heap) := Classical.choose exc
@[irreducible] noncomputable def gz : Heap := ccq.1.1
@[irreducible] noncomputable def Lz : Addr := ccq.1.2
@[irreducible] noncomputable def hz : Heap := ccq.2
theorem core2 (hT : Tabs T1 T2 rest) (hb : b < 0) (hab : Builtin.Int.intBits a ≤ 2 ^ 15) (hbb : Builtin.Int.intBits b ≤ 2 ^ 15) (hR : T1 ++ (T2 ++ rest) = R) (B : Below A₀ base outer h₀) (F : Fr h₀ L s.heap m) (X : (hd.heap_39 w.params).In h₀) (N : News h₀ L s.heap R) (T : Top p loose mean mg mb h₀) (hk : cs.kind = .function) (hC1 : CodeHd h₀ 41 37) (hC2 : CodeHd h₀ 48 44) (hd : dp + 27 < recursionLimit) (hu : un + 324 < cLine) (hret : ∀ r news' h' tk', Fr h₀ L h' m → News h₀ L h' news' → (OutDM rest ((-a) / (-b)) (-((-a) % (-b)))) r news' → Q r { s with heap := h', toks := tk' }) : pcq.1 gz Lz hz := by
  have hab' : Builtin.Int.intBits (-a) ≤ 2 ^ 15 := by rw [intBits_neg]; exact hab
  have hbb' : Builtin.Int.intBits (-b) ≤ 2 ^ 15 := by rw [intBits_neg]; exact hbb
  have hcall : ∀ t u, CallOkC w p loose mean mg mb 63 [.int (-a) t, .int (-b) u] 26 316 (T1 ++ (T2 ++ rest)) (OutDM rest ((-a) / (-b)) ((-a) % (-b))) := by
    intro t u
    by_cases h0 : 0 ≤ -a
    · intro dp un gd cn cs a' ccd cl outer A₀ base h₀ L m s Q E B F X N T hk hC1 hC2 hd hu hret
      exact id_pos w p loose mean mg mb T1 T2 rest (-a) (-b) t u hT h0 (by omega) hab' hbb' dp un gd cn cs a' ccd cl outer A₀ base h₀ L m s Q E B F X N T hk hC1 hC2 (by omega) (by omega) hret
    · exact id_neg w p loose mean mg mb T1 T2 rest (-a) (-b) t u hT (by omega) (by omega) hab' hbb'
  intro FGz Fz Nz Bz Xz Tz Cz Dz
  walk_at "STEPS"
  k_dflt refine' CallOkC.use (hcall _ _) ?k1 ?k2 ?k3 ?k4 ?ks ?k5 ?k6 ?kc1 ?kc2 ?k7 ?k8 ?_
  walk_at "KS"
  case ks => (rw [hR]; exact fun p hp => hp)
  intro r1 news1 h1 tk1 F1 N1 ho
  obtain ⟨x, tq, tr, U1, U2, rfl, rfl, hT2, hlt⟩ := ho
  generalize hR2 : U1 ++ (U2 ++ rest) = R2 at *
  (try dsimp only); (try k_fold)
  (try simp only [List.cons_append, List.nil_append] at N1)
  (try simp only [AllLt, and_true] at hlt)
  walk_at "STEPS"
  all_goals (refine retDM2 hret (by k_asm) (by k_asm) (by rw [hR2]; walk_at "SUB") (by first | walk_at "LT" | exact lt_two (by assumption)) hT2 ?_)
  all_goals (show _ ∧ _)
  all_goals exact ⟨rfl, rfl⟩
theorem coreq : Pq w p loose mean mg mb T1 T2 rest a b ta tb R dp un gd cn cs a' ccd cl outer A₀ base h₀ L m s Q E := by
  with_unfolding_all exact cutq.2 fun hT hb hab hbb hR B F X N T hk hC1 hC2 hd hu hret => pcq.2 fun a b c => Classical.choose_spec exc (core2 hT hb hab hbb hR B F X N T hk hC1 hC2 hd hu hret) ((a, b), c)
theorem allq (w : World) (p : Program) (loose : List Str) (mean : ExcName → Option Value) (mg : Str → Option Value) (mb : Str → Option Value) (T1 : Led) (T2 : Led) (rest : Led) (a : Int) (b : Int) (ta : Tok) (tb : Tok) (R : Led) (dp : Nat) (un : Nat) (gd : Option (List Code)) (cn : Str) (cs : Scope) (a' : Addr) (ccd : Value) (cl : List (Str × Addr)) (outer : List Env) (A₀ : Around) (base : Heap) (h₀ : Heap) (L : Addr) (m : Str → Option Value) (s : Shared) (Q : Value → Shared → Prop) (E : Value → Shared → Prop) : Pq w p loose mean mg mb T1 T2 rest a b ta tb R dp un gd cn cs a' ccd cl outer A₀ base h₀ L m s Q E := by
  with_unfolding_all exact Classical.choose_spec exq coreq (((((w, p), (loose, mean)), ((mg, mb), (T1, T2))), (((rest, a), (b, ta)), ((tb, R), (dp, un)))), ((((gd, cn), (cs, a')), ((ccd, cl), (outer, A₀))), (((base, h₀), (L, m)), ((s, Q), E))))
end CidbnegI
section
variable (w : World) (p : Program) (loose : List Str) (mean : ExcName → Option Value) (mg mb : Str → Option Value)
theorem id_b_negI (T1 T2 rest : Led) (a b : Int) (ta tb : Tok) (hT : Tabs T1 T2 rest) (hb : b < 0) (hab : Builtin.Int.intBits a ≤ 2 ^ 15) (hbb : Builtin.Int.intBits b ≤ 2 ^ 15) {R : Led} (hR : T1 ++ (T2 ++ rest) = R) {dp : Nat} {un : Nat} {gd : Option (List Code)} {cn : Str} {cs : Scope} {a' : Addr} {ccd : Value} {cl : List (Str × Addr)} {outer : List Env} {A₀ : Around} {base : Heap} {h₀ : Heap} {L : Addr} {m : Str → Option Value} {s : Shared} {Q : Value → Shared → Prop} {E : Value → Shared → Prop}
    (B : Below A₀ base outer h₀) (F : Fr h₀ L s.heap m) (X : (hd.heap_39 w.params).In h₀) (N : News h₀ L s.heap R) (T : Top p loose mean mg mb h₀) (hk : cs.kind = .function) (hC1 : CodeHd h₀ 41 37) (hC2 : CodeHd h₀ 48 44) (hd : dp + 27 < recursionLimit) (hu : un + 324 < cLine) (hret : ∀ r news' h' tk', Fr h₀ L h' m → News h₀ L h' news' → (OutDM rest ((-a) / (-b)) (-((-a) % (-b)))) r news' → Q r { s with heap := h', toks := tk' }) :
    wpAny (model PySem.Challenge.pw_sr0065_01 w) (ktrTop dp un gd cn cs L a' ccd cl outer) (call (.ref 63) [.int a ta, .int b tb]) Q E s :=
  CidbnegI.allq w p loose mean mg mb T1 T2 rest a b ta tb R dp un gd cn cs a' ccd cl outer A₀ base h₀ L m s Q E hT hb hab hbb hR B F X N T hk hC1 hC2 hd hu hret
theorem id_b_neg (T1 T2 rest : Led) (a b : Int) (ta tb : Tok) (hT : Tabs T1 T2 rest) (hb : b < 0) (hab : Builtin.Int.intBits a ≤ 2 ^ 15) (hbb : Builtin.Int.intBits b ≤ 2 ^ 15) :
   CallOkC w p loose mean mg mb 63 [.int a ta, .int b tb] 27 324 (T1 ++ (T2 ++ rest)) (OutDM rest ((-a) / (-b)) (-((-a) % (-b)))) := by
  unfold CallOkC
  intro dp un gd cn cs a' ccd cl outer A₀ base h₀ L m s Q E B F X N T hk hC1 hC2 hd hu hret
  exact id_b_negI w p loose mean mg mb T1 T2 rest a b ta tb hT hb hab hbb rfl B F X N T hk hC1 hC2 hd hu hret
theorem idiv_ok (T1 T2 rest : Led) (a b : Int) (ta tb : Tok) (hT : Tabs T1 T2 rest) (hb : b ≠ 0) (hab : Builtin.Int.intBits a ≤ 2 ^ 15) (hbb : Builtin.Int.intBits b ≤ 2 ^ 15) :
   CallOkC w p loose mean mg mb 63 [.int a ta, .int b tb] 27 324 (T1 ++ (T2 ++ rest)) (OutDM rest (a.fdiv b) (a.fmod b)) := by
  intro dp un gd cn cs a' ccd cl outer A₀ base h₀ L m s Q E B F X N T hk hC1 hC2 hd hu hret
  by_cases h : 0 < b
  · rw [Int.fdiv_eq_ediv_of_nonneg _ (by omega), Int.fmod_eq_emod_of_nonneg _ (by omega)] at hret
    by_cases h0 : 0 ≤ a
    · exact id_pos w p loose mean mg mb T1 T2 rest a b ta tb hT h0 h hab hbb dp un gd cn cs a' ccd cl outer A₀ base h₀ L m s Q E B F X N T hk hC1 hC2 (by omega) (by omega) hret
    · exact id_neg w p loose mean mg mb T1 T2 rest a b ta tb hT (by omega) h hab hbb dp un gd cn cs a' ccd cl outer A₀ base h₀ L m s Q E B F X N T hk hC1 hC2 (by omega) (by omega) hret
  · have e1 : a.fdiv b = (-a) / (-b) := by rw [← Int.neg_fdiv_neg, Int.fdiv_eq_ediv_of_nonneg _ (by omega)]
    have e2 : a.fmod b = -((-a) % (-b)) := by
      have := Int.neg_fmod_neg a b
      rw [Int.fmod_eq_emod_of_nonneg _ (show 0 ≤ -b by omega)] at this
      omega
    rw [e1, e2] at hret
    exact id_b_neg w p loose mean mg mb T1 T2 rest a b ta tb hT (by omega) hab hbb dp un gd cn cs a' ccd cl outer A₀ base h₀ L m s Q E B F X N T hk hC1 hC2 hd hu hret
end
end
-- M5
section
theorem fdm {a b q r s : Int} (hs : s = 1 ∨ s = -1) (h : a = b * q + r) (h0 : 0 ≤ s * r) (h1 : s * r < s * b) : b ≠ 0 ∧ a.fdiv b = q ∧ a.fmod b = r := by
  rcases hs with rfl | rfl
  · have hb : 0 < b := by omega
    refine ⟨by omega, ?_⟩
    rw [Int.fdiv_eq_ediv_of_nonneg _ (by omega), Int.fmod_eq_emod_of_nonneg _ (by omega)]
    exact (Int.ediv_emod_unique hb).mpr ⟨by rw [h, Int.add_comm], by omega, by omega⟩
  · have hb : b < 0 := by omega
    have e1 : a.fdiv b = (-a) / (-b) := by rw [← Int.neg_fdiv_neg, Int.fdiv_eq_ediv_of_nonneg _ (by omega)]
    have e2 : a.fmod b = -((-a) % (-b)) := by
      have := Int.neg_fmod_neg a b
      rw [Int.fmod_eq_emod_of_nonneg _ (show 0 ≤ -b by omega)] at this
      omega
    have := (Int.ediv_emod_unique (a := -a) (b := -b) (q := q) (r := -r) (by omega)).mpr ⟨by rw [h, Int.neg_mul]; omega, by omega, by omega⟩
    refine ⟨by omega, by rw [e1]; exact this.1, by rw [e2, this.2]; omega⟩
noncomputable def Unit1 (t : Int) : Prop := t = 1 ∨ t = -1
theorem Unit1.sq {t : Int} (h : Unit1 t) : t * t = 1 := by rcases h with rfl | rfl <;> rfl
theorem Unit1.mul {t s : Int} (h : Unit1 t) (g : Unit1 s) : Unit1 (t * s) := by rcases h with rfl | rfl <;> rcases g with rfl | rfl <;> first | exact .inl rfl | exact .inr rfl
theorem Unit1.bits {t : Int} (h : Unit1 t) (x : Int) : Builtin.Int.intBits (t * x) = Builtin.Int.intBits x := by
  rcases h with rfl | rfl
  · rw [Int.one_mul]
  · rw [show -1 * x = -x by omega, intBits_neg]
theorem Unit1.small {t : Int} (h : Unit1 t) : Builtin.Int.intBits t ≤ 64 := by rcases h with rfl | rfl <;> decide
theorem Unit1.mulOk {t : Int} (h : Unit1 t) (x : Int) : IntMulOk t x := .of_left h.small
theorem Unit1.mulOkR {t : Int} (h : Unit1 t) (x : Int) : IntMulOk x t := .of_right h.small
theorem intBits_abs {x : Int} {k : Nat} (h1 : -(2 ^ k) < x) (h2 : x < 2 ^ k) : Builtin.Int.intBits x ≤ k := by
  by_cases h : 0 ≤ x
  · exact intBits_le h h2
  · rw [← intBits_neg]; exact intBits_le (by omega) (by omega)
/-- the first division: nothing is left -/
theorem fd_one {u l N t s : Int} (ht : Unit1 t) (hs : Unit1 s) (hl : 1 < l) (hu : u = l * N) : s * l ≠ 0 ∧ (t * u).fdiv (s * l) = t * s * N ∧ (t * u).fmod (s * l) = 0 := by
  refine fdm hs ?_ (by omega) ?_
  · rcases ht with rfl | rfl <;> rcases hs with rfl | rfl <;> subst hu <;> simp [Int.neg_mul, Int.mul_neg]
  · rw [← Int.mul_assoc, Unit1.sq hs]; omega
theorem back {N t s : Int} (ht : Unit1 t) (hs : Unit1 s) : t * s * N * (t * s) = N := by
  rw [Int.mul_comm (t * s) N, Int.mul_assoc, (ht.mul hs).sq, Int.mul_one]
/-- the second division -/
theorem fd_two_eq {N t s R A : Int} (hs : Unit1 s) (e : t = s) (hR : 0 < R) (hA : N % R = A) :
    s * R ≠ 0 ∧ (t * N).fdiv (s * R) = N / R ∧ (t * N).fmod (s * R) = s * A := by
  have hd := Int.mul_ediv_add_emod N R
  have hm := Int.emod_nonneg N (show R ≠ 0 by omega)
  have hl := Int.emod_lt_of_pos N hR
  rw [hA] at hd hm hl
  refine fdm hs ?_ ?_ ?_
  · subst e; rw [Int.mul_assoc, ← Int.mul_add, hd]
  · rw [← Int.mul_assoc, hs.sq]; omega
  · rw [← Int.mul_assoc, ← Int.mul_assoc, hs.sq]; omega
theorem fd_two_ne {N t s R A : Int} (hs : Unit1 s) (e : t = -s) (hR : 0 < R) (hA : N % R = A) (hA0 : 0 < A) :
    s * R ≠ 0 ∧ (t * N).fdiv (s * R) = -(N / R) - 1 ∧ (t * N).fmod (s * R) = s * (R - A) := by
  have hd := Int.mul_ediv_add_emod N R
  have hl := Int.emod_lt_of_pos N hR
  rw [hA] at hd hl
  refine fdm hs ?_ ?_ ?_
  · subst e
    generalize N / R = q at *
    subst hd
    rw [Int.mul_assoc, ← Int.mul_add]
    rcases hs with rfl | rfl
    · rw [Int.mul_sub, Int.mul_neg]; omega
    · rw [Int.mul_sub, Int.mul_neg]; omega
  · rw [← Int.mul_assoc, hs.sq]; omega
  · rw [← Int.mul_assoc, ← Int.mul_assoc, hs.sq]; omega
/-- quotient and rest of the second division -/
noncomputable def fdq (t s R N : Int) : Int := if t = s then N / R else -(N / R) - 1
noncomputable def fdr (t s R A : Int) : Int := if t = s then s * A else s * (R - A)
theorem fd_two {N t s R A : Int} (hs : Unit1 s) (e : t = s ∨ t = -s) (hR : 0 < R) (hA : N % R = A) (hA0 : 0 < A) :
    s * R ≠ 0 ∧ (t * N).fdiv (s * R) = fdq t s R N ∧ (t * N).fmod (s * R) = fdr t s R A := by
  unfold fdq fdr
  by_cases h : t = s
  · rw [if_pos h, if_pos h]; exact fd_two_eq hs h hR hA
  · rw [if_neg h, if_neg h]; exact fd_two_ne hs (e.resolve_left h) hR hA hA0
theorem fd_back {N t s R A : Int} (e : t = s ∨ t = -s) (hA : N % R = A) : fdq t s R N * s * R + fdr t s R A = t * N := by
  unfold fdq fdr
  have hd := Int.mul_ediv_add_emod N R
  rw [hA] at hd
  by_cases h : t = s
  · rw [if_pos h, if_pos h, h]
    generalize N / R = q at *
    subst hd
    rw [Int.mul_comm q s, Int.mul_assoc, ← Int.mul_add, Int.mul_comm q R]
  · rw [if_neg h, if_neg h, e.resolve_left h]
    generalize N / R = q at *
    subst hd
    rw [Int.mul_comm _ s, Int.mul_assoc, ← Int.mul_add, Int.neg_mul, ← Int.mul_neg, Int.sub_mul, Int.neg_mul, Int.mul_comm q R]
    congr 1; omega
theorem fd_side {t s R A : Int} (hs : Unit1 s) : s * fdr t s R A = if t = s then A else R - A := by
  unfold fdr
  by_cases h : t = s
  · rw [if_pos h, if_pos h, ← Int.mul_assoc, hs.sq]; omega
  · rw [if_neg h, if_neg h, ← Int.mul_assoc, hs.sq]; omega
theorem fd_abs {N t s R : Int} (hN : 0 ≤ N) (hR : 0 < R) : -(N + 1) ≤ fdq t s R N ∧ fdq t s R N ≤ N := by
  unfold fdq
  have h1 := Int.ediv_nonneg hN (Int.le_of_lt hR)
  have h2 : N / R ≤ N := Int.ediv_le_self R hN
  by_cases h : t = s
  · rw [if_pos h]; omega
  · rw [if_neg h]; omega
/-- the third division -/
theorem fd_thr_eq {O l t s : Int} (hs : Unit1 s) (e : t = s) (hl : 1 < l) :
    s * l ≠ 0 ∧ (t * (O * l - 1)).fdiv (s * l) = O - 1 ∧ (t * (O * l - 1)).fmod (s * l) = s * (l - 1) := by
  refine fdm hs ?_ ?_ ?_
  · subst e; rw [Int.mul_assoc, ← Int.mul_add]; congr 1; rw [Int.mul_sub, Int.mul_comm l O]; omega
  · rw [← Int.mul_assoc, hs.sq]; omega
  · rw [← Int.mul_assoc, ← Int.mul_assoc, hs.sq]; omega
theorem fd_thr_ne {O l t s : Int} (hs : Unit1 s) (e : t = -s) (hl : 1 < l) :
    s * l ≠ 0 ∧ (t * (O * l - 1)).fdiv (s * l) = -O ∧ (t * (O * l - 1)).fmod (s * l) = s := by
  refine fdm hs ?_ ?_ ?_
  · subst e; rw [Int.mul_neg, Int.mul_assoc, Int.mul_comm l O]; rcases hs with rfl | rfl <;> omega
  · rw [hs.sq]; omega
  · rw [hs.sq, ← Int.mul_assoc, hs.sq]; omega
noncomputable def dq (t s O : Int) : Int := if t = s then O - 1 else -O
noncomputable def dr (t s l : Int) : Int := if t = s then s * (l - 1) else s
theorem fd_thr {O l t s : Int} (hs : Unit1 s) (e : t = s ∨ t = -s) (hl : 1 < l) :
    s * l ≠ 0 ∧ (t * (O * l - 1)).fdiv (s * l) = dq t s O ∧ (t * (O * l - 1)).fmod (s * l) = dr t s l := by
  unfold dq dr
  by_cases h : t = s
  · rw [if_pos h, if_pos h]; exact fd_thr_eq hs h hl
  · rw [if_neg h, if_neg h]; exact fd_thr_ne hs (e.resolve_left h) hl
theorem cnt_pl {A wd pl : Int} (hw : 0 < wd) (hp : 0 ≤ wd * pl) (h : Builtin.Int.intBits A ≤ (wd * pl).toNat) : cnt A wd ≤ pl := by
  unfold cnt
  have h' : (Builtin.Int.intBits A : Int) ≤ wd * pl := by omega
  have e : (wd * pl + wd - 1) / wd = pl := by
    rw [show wd * pl + wd - 1 = wd * pl + (wd - 1) by omega, Int.add_comm, Int.add_mul_ediv_left _ _ (by omega), Int.ediv_eq_zero_of_lt (by omega) (by omega)]; omega
  have := Int.ediv_le_ediv (a := (Builtin.Int.intBits A : Int) + wd - 1) (b := wd * pl + wd - 1) hw (by omega)
  omega
theorem fd_bits {M W : Int} (hM : 0 ≤ M) (h : -(M + 1) ≤ W ∧ W ≤ M) : Builtin.Int.intBits W ≤ Builtin.Int.intBits M + 1 := by
  by_cases h0 : 0 < M
  · have := (intBits_pos h0).2
    have e := Int.pow_succ (2 : Int) (Builtin.Int.intBits M)
    exact intBits_abs (by omega) (by omega)
  · have hM0 : M = 0 := by omega
    subst hM0
    refine Nat.le_trans (intBits_abs (k := 1) ?_ ?_) (Nat.le_add_left _ _) <;> rw [Int.pow_succ, Int.pow_zero] <;> omega
theorem pow_mono2 {i j : Nat} (h : i ≤ j) : (2 : Int) ^ i ≤ 2 ^ j := by
  obtain ⟨c, rfl⟩ := Nat.le.dest h
  have := Int.mul_le_mul_of_nonneg_left (show (1 : Int) ≤ 2 ^ c from by have := pow_pos' c; omega) (Int.le_of_lt (pow_pos' i))
  rw [Int.pow_add]; omega
theorem ones_bits {k : Nat} {l : Int} (hk : k ≤ 603 * 8) (hl : 0 < l) (hlb : Builtin.Int.intBits l ≤ 22000) :
    Builtin.Int.intBits ((2 : Int) ^ k - 1 + 1) ≤ 5000 ∧ Builtin.Int.intBits (((2 : Int) ^ k - 1 + 1) ^ Int.toNat 2) ≤ 10000 ∧ Builtin.Int.intBits (((2 : Int) ^ k - 1 + 1) ^ Int.toNat 2 * l) ≤ 32000 ∧
      Builtin.Int.intBits (((2 : Int) ^ k - 1 + 1) ^ Int.toNat 2 * l - 1) ≤ 32000 := by
  have e1 : ((2 : Int) ^ k - 1 + 1) = 2 ^ k := by omega
  have e2 : ((2 : Int) ^ k) ^ Int.toNat 2 = 2 ^ (k * 2) := by rw [Int.pow_mul]; rfl
  have p1 := pow_pos' k
  have p2 := pow_pos' (k * 2)
  have q1 : (2 : Int) ^ k < 2 ^ 5000 := Int.lt_of_lt_of_le (b := 2 ^ (k + 1)) (by rw [Int.pow_succ]; omega) (pow_mono2 (by omega))
  have q2 : (2 : Int) ^ (k * 2) < 2 ^ 10000 := Int.lt_of_lt_of_le (b := 2 ^ (k * 2 + 1)) (by rw [Int.pow_succ]; omega) (pow_mono2 (by omega))
  have q3 : l < 2 ^ 22000 := Int.lt_of_lt_of_le (intBits_pos hl).2 (pow_mono2 hlb)
  have q4 : (2 : Int) ^ (k * 2) * l < 2 ^ 32000 := by
    rw [show 32000 = 10000 + 22000 from rfl, Int.pow_add]
    exact Int.lt_of_lt_of_le (Int.mul_lt_mul_of_pos_left q3 p2) (Int.mul_le_mul_of_nonneg_right (Int.le_of_lt q2) (Int.le_of_lt (pow_pos' _)))
  have q5 := Int.mul_pos p2 hl
  rw [e1, e2]
  exact ⟨intBits_le (by omega) q1, intBits_le (by omega) q2, intBits_le (by omega) q4, intBits_le (by omega) (by omega)⟩
theorem dig_pad (n : Nat) : ∀ (c k : Nat) (x : Int), 0 ≤ x → x < 2 ^ (n * c) → dig n (c + k) x = dig n c x ++ List.replicate k 0 := by
  intro c k x h0 h
  rw [dig_add n c k x h0]
  congr 1
  rw [Int.ediv_eq_zero_of_lt h0 h]
  clear h h0
  induction k with
  | zero => rfl
  | succ k ih =>
    rw [dig, List.replicate_succ]
    simp [ih]
end
-- C11
theorem fresh_C11 : True := by
  w_top off
  exact trivial
local macro_rules | `(tactic| walk_at "binaryOp Pow int int") => `(tactic| (k_here; refine pow_P ?_ ?_ ?_))
theorem Tabs.cons {T1 T2 rest : Led} {x : Addr} {o : Obj} (h : Tabs T1 T2 rest) (lt : AllLt x (T1 ++ (T2 ++ rest))) : Tabs T1 T2 ((x, o) :: rest) where
  a := h.a
  b := h.b
  ab := h.ab
  ar := h.ar.cons fun r hr => (Nat.ne_of_lt (tb_ltOf lt r (List.mem_append_left _ hr))).symm
  br := h.br.cons fun r hr => (Nat.ne_of_lt (tb_ltOf lt r (List.mem_append_right _ (List.mem_append_left _ hr)))).symm
theorem sub_tab {V1 V2 rest big : Led} {d : Addr} {o : Obj} (h : (d, o) ∈ big) (hs : ∀ p ∈ V1 ++ (V2 ++ rest), p ∈ big) : ∀ p ∈ V1 ++ (V2 ++ ((d, o) :: rest)), p ∈ big := by
  intro p hp
  rcases List.mem_append.mp hp with hp | hp
  · exact hs p (List.mem_append_left _ hp)
  · rcases List.mem_append.mp hp with hp | hp
    · exact hs p (List.mem_append_right _ (List.mem_append_left _ hp))
    · rcases List.mem_cons.mp hp with rfl | hp
      · exact h
      · exact hs p (List.mem_append_right _ (List.mem_append_right _ hp))
theorem mem_due {d : Addr} {q r q' r' : Int} {t t' : Tok} {big : Led} (h : (d, tupO [.int q t, .int r t']) ∈ big) (e1 : q' = q) (e2 : r' = r) : (d, tupO [.int q' t, .int r' t']) ∈ big := by
  subst e1; subst e2; exact h
theorem news_sub {h₀ h : Heap} {L : Addr} {N N' : Led} (hN : News h₀ L h N) (h1 : ∀ p ∈ N', p ∈ N) : News h₀ L h N' := fun p hp => hN p (h1 p hp)
theorem tab_sub {x d : Addr} {o o' : Obj} {W1 W2 rest : Led} : ∀ p ∈ (x, o) :: (d, o') :: (W1 ++ (W2 ++ rest)), p ∈ (x, o) :: (W1 ++ (W2 ++ ((d, o') :: rest))) := by
  intro p hp
  rcases List.mem_cons.mp hp with rfl | hp
  · exact .head _
  · refine .tail _ ?_
    rcases List.mem_cons.mp hp with rfl | hp
    · exact List.mem_append_right _ (List.mem_append_right _ (.head _))
    · rcases List.mem_append.mp hp with hp | hp
      · exact List.mem_append_left _ hp
      · rcases List.mem_append.mp hp with hp | hp
        · exact List.mem_append_right _ (List.mem_append_left _ hp)
        · exact List.mem_append_right _ (List.mem_append_right _ (.tail _ hp))
theorem mem_tab {d : Addr} {o' : Obj} {W1 W2 rest : Led} {p : Addr × Obj} (hp : p ∈ W1 ++ (W2 ++ rest)) : p ∈ W1 ++ (W2 ++ ((d, o') :: rest)) := by
  rcases List.mem_append.mp hp with hp | hp
  · exact List.mem_append_left _ hp
  · rcases List.mem_append.mp hp with hp | hp
    · exact List.mem_append_right _ (List.mem_append_left _ hp)
    · exact List.mem_append_right _ (List.mem_append_right _ (.tail _ hp))
theorem lt_tab {x d : Addr} {o' : Obj} {W1 W2 rest : Led} (h : AllLt x (W1 ++ (W2 ++ ((d, o') :: rest)))) : @LT.lt Nat _ d x ∧ AllLt x (W1 ++ (W2 ++ rest)) :=
  ⟨tb_ltOf h (d, o') (List.mem_append_right _ (List.mem_append_right _ (.head _))), allLt_of fun p hp => tb_ltOf h p (mem_tab hp)⟩
theorem Tabs.tail {T1 T2 rest : Led} {x : Addr} {o : Obj} (h : Tabs T1 T2 ((x, o) :: rest)) : Tabs T1 T2 rest where
  a := h.a
  b := h.b
  ab := h.ab
  ar := h.ar.mono (fun _ h => h) fun _ h => .tail _ h
  br := h.br.mono (fun _ h => h) fun _ h => .tail _ h
theorem lt_r1 {a : Prop} {D : Addr} {R : Led} (h : a ∧ AllLt D R) : AllLt D R := h.2
theorem two_le_pow {k : Nat} (h : 1 ≤ k) : (2 : Int) ≤ 2 ^ k := by
  obtain ⟨j, rfl⟩ : ∃ j, k = j + 1 := ⟨k - 1, by omega⟩
  have := pow_pos' j
  rw [Int.pow_succ]; omega
theorem pow_pre {e : Int} (h0 : 0 ≤ e) (h : e ≤ 603 * 8) : (Builtin.Int.intBits 2 : Int) * e ≤ 2 ^ 27 := by
  rw [show Builtin.Int.intBits 2 = 2 from rfl]; omega
/-- an answer of int_divmod met: the pair opened, its ledger named -/
theorem idiv_is {w : World} {p : Program} {loose : List Str} {mean : ExcName → Option Value} {mg mb : Str → Option Value} {T1 T2 rest : Led} {a b q r : Int} {ta tb : Tok} (hT : Tabs T1 T2 rest) (hab : Builtin.Int.intBits a ≤ 2 ^ 15) (hbb : Builtin.Int.intBits b ≤ 2 ^ 15)
    (h : b ≠ 0 ∧ a.fdiv b = q ∧ a.fmod b = r) :
    CallOkC w p loose mean mg mb 63 [.int a ta, .int b tb] 27 324 (T1 ++ (T2 ++ rest)) (OutDM rest q r) := by
  obtain ⟨h0, rfl, rfl⟩ := h
  exact idiv_ok w p loose mean mg mb T1 T2 rest a b ta tb hT h0 hab hbb
theorem i2d_is {w : World} {p : Program} {loose : List Str} {mean : ExcName → Option Value} {mg mb : Str → Option Value} {T rest : Led} {a n A : Int} {ta tn : Tok} (hT : TabSt 37 35 4 qual42 T rest) (e : a = A) (ha : 0 ≤ A) (hn : 0 < n) (hn2 : n ≤ 2 ^ 22) (hb : Builtin.Int.intBits A ≤ 2 ^ 22) (hc : cnt A n ≤ 2 ^ 15) :
   CallOkC w p loose mean mg mb 42 [.int a ta, .int n tn] 18 200 (T ++ rest) (Out42 rest n.toNat (cnt A n).toNat A) := by
  subst e
  exact i2d_ok w p loose mean mg mb T rest a n ta tn hT ha hn hn2 hb hc
noncomputable def OutFig (rest : Led) (n k : Nat) (A : Int) (v : Value) (news' : Led) : Prop :=
  ∃ (D : Addr) (vs : List Value) (T1' T2' : Led), v = .ref D ∧ IntsAre vs (dig n k A) ∧ news' = (D, listOf vs.toArray 0) :: (T1' ++ (T2' ++ rest)) ∧ Tabs T1' T2' ((D, listOf vs.toArray 0) :: rest) ∧ AllLt D (T1' ++ (T2' ++ rest))
theorem retFig {h₀ h' : Heap} {L D' D : Addr} {m : Str → Option Value} {rest news R6 T4 W1 W2 : Led} {o : Obj} {s : Shared} {Q : Value → Shared → Prop} {n c k pl : Nat} {A : Int} {ws : List Value} {tk' : Nat}
    (hret : ∀ v news' h' tk', Fr h₀ L h' m → News h₀ L h' news' → OutFig rest n pl A v news' → Q v { s with heap := h', toks := tk' })
    (F : Fr h₀ L h' m) (N : News h₀ L h' news) (mD : (D', listOf ws.toArray 0) ∈ news) (sub : ∀ p ∈ R6, p ∈ news) (hR : T4 ++ (W2 ++ rest) = R6) (lt : AllLt D' R6) (h1 : Tab42 T4) (h2 : Dj T4 ((D, o) :: (W2 ++ rest))) (h3 : Tabs W1 W2 rest)
    (hI : IntsAre ws (dig n c A ++ (List.replicate k [0]).flatten)) (e : c + k = pl) (hA : 0 ≤ A) (hb : A < 2 ^ (n * c)) : Q (.ref D') { s with heap := h', toks := tk' } := by
  subst e; subst hR
  have hz : ∀ k : Nat, (List.replicate k [(0 : Int)]).flatten = List.replicate k 0 := by
    intro k; induction k with
    | zero => rfl
    | succ k ih => rw [List.replicate_succ, List.flatten_cons, ih, List.replicate_succ]; rfl
  rw [hz, ← dig_pad n c k A hA hb] at hI
  refine hret _ _ h' tk' F ?_ ⟨D', ws, T4, W2, rfl, hI, rfl, ⟨h1, h3.b, ?_, ?_, ?_⟩, lt⟩
  · exact List.forall_mem_cons.mpr ⟨N _ mD, fun p hp => N p (sub p hp)⟩
  · exact h2.mono (fun _ h => h) fun q hq => .tail _ (List.mem_append_left _ hq)
  · exact (h2.mono (fun _ h => h) fun q hq => .tail _ (List.mem_append_right _ hq)).cons fun r hr => (Nat.ne_of_lt (tb_ltOf lt r (List.mem_append_left _ hr))).symm
  · exact h3.br.cons fun r hr => (Nat.ne_of_lt (tb_ltOf lt r (List.mem_append_right _ (List.mem_append_left _ hr)))).symm
section
variable (w : World) (p : Program) (loose : List Str) (mean : ExcName → Option Value) (mg mb : Str → Option Value)
end
namespace CfigokI
noncomputable def Pq (w : World) (p : Program) (loose : List Str) (mean : ExcName → Option Value) (mg : Str → Option Value) (mb : Str → Option Value) (T1 : Led) (T2 : Led) (rest : Led) (u : Int) (l : Int) (pl : Int) (wd : Int) (tn : Int) (sd : Int) (N : Int) (A : Int) (t1 : Tok) (t2 : Tok) (t3 : Tok) (t4 : Tok) (t5 : Tok) (t6 : Tok) (R : Led) (dp : Nat) (un : Nat) (gd : Option (List Code)) (cn : Str) (cs : Scope) (a' : Addr) (ccd : Value) (cl : List (Str × Addr)) (outer : List Env) (A₀ : Around) (base : Heap) (h₀ : Heap) (L : Addr) (m : Str → Option Value) (s : Shared) (Q : Value → Shared → Prop) (E : Value → Shared → Prop) : Prop := ∀ (hT : Tabs T1 T2 rest) (hl : 1 < l) (hu : u = l * N) (hN : 0 ≤ N) (hpl : 1 ≤ pl) (hpl2 : pl ≤ 8) (hwd : 4 ≤ wd) (hwd2 : wd ≤ 603) (htn : Unit1 tn) (hts : tn = sd ∨ tn = -sd) (hsd : Unit1 sd) (hA : N % (2 ^ (wd * pl).toNat - 1) = A) (hA0 : 0 < A) (hlb : Builtin.Int.intBits l ≤ 22000) (hub : Builtin.Int.intBits u ≤ 22000) (hR : T1 ++ (T2 ++ rest) = R) (B : Below A₀ base outer h₀) (F : Fr h₀ L s.heap m) (X : (hd.heap_39 w.params).In h₀) (N0 : News h₀ L s.heap R) (T : Top p loose mean mg mb h₀) (hk : cs.kind = .function) (hC1 : CodeHd h₀ 41 37) (hC2 : CodeHd h₀ 48 44) (hd : dp + 30 < recursionLimit) (hu' : un + 400 < cLine) (hret : ∀ r news' h' tk', Fr h₀ L h' m → News h₀ L h' news' → (OutFig rest wd.toNat pl.toNat A) r news' → Q r { s with heap := h', toks := tk' }),
    wpAny (model PySem.Challenge.pw_sr0065_01 w) (ktrTop dp un gd cn cs L a' ccd cl outer) (call (.ref 143) [.int u t1, .int l t2, .int pl t3, .int wd t4, .int tn t5, .int sd t6]) Q E s
noncomputable abbrev Tq : Type := ((((((World × Program) × (List Str)) × (((ExcName → Option Value) × (Str → Option Value)) × (Str → Option Value))) × (((Led × Led) × Led) × (Int × Int))) × ((((Int × Int) × Int) × (Int × Int)) × (((Int × Tok) × Tok) × (Tok × Tok)))) × (((((Tok × Tok) × Led) × (Nat × Nat)) × ((((Option (List Code)) × Str) × Scope) × (Addr × Value))) × (((((List (Str × Addr)) × (List Env)) × Around) × (Heap × Heap)) × (((Addr × (Str → Option Value)) × Shared) × ((Value → Shared → Prop) × (Value → Shared → Prop))))))
theorem exq : ∃ t : Tq, Pq t.1.1.1.1.1.1 t.1.1.1.1.1.2 t.1.1.1.1.2 t.1.1.1.2.1.1 t.1.1.1.2.1.2 t.1.1.1.2.2 t.1.1.2.1.1.1 t.1.1.2.1.1.2 t.1.1.2.1.2 t.1.1.2.2.1 t.1.1.2.2.2 t.1.2.1.1.1.1 t.1.2.1.1.1.2 t.1.2.1.1.2 t.1.2.1.2.1 t.1.2.1.2.2 t.1.2.2.1.1.1 t.1.2.2.1.1.2 t.1.2.2.1.2 t.1.2.2.2.1 t.1.2.2.2.2 t.2.1.1.1.1.1 t.2.1.1.1.1.2 t.2.1.1.1.2 t.2.1.1.2.1 t.2.1.1.2.2 t.2.1.2.1.1.1 t.2.1.2.1.1.2 t.2.1.2.1.2 t.2.1.2.2.1 t.2.1.2.2.2 t.2.2.1.1.1.1 t.2.2.1.1.1.2 t.2.2.1.1.2 t.2.2.1.2.1 t.2.2.1.2.2 t.2.2.2.1.1.1 t.2.2.2.1.1.2 t.2.2.2.1.2 t.2.2.2.2.1 t.2.2.2.2.2 → ∀ t : Tq, Pq t.1.1.1.1.1.1 t.1.1.1.1.1.2 t.1.1.1.1.2 t.1.1.1.2.1.1 t.1.1.1.2.1.2 t.1.1.1.2.2 t.1.1.2.1.1.1 t.1.1.2.1.1.2 t.1.1.2.1.2 t.1.1.2.2.1 t.1.1.2.2.2 t.1.2.1.1.1.1 t.1.2.1.1.1.2 t.1.2.1.1.2 t.1.2.1.2.1 t.1.2.1.2.2 t.1.2.2.1.1.1 t.1.2.2.1.1.2 t.1.2.2.1.2 t.1.2.2.2.1 t.1.2.2.2.2 t.2.1.1.1.1.1 t.2.1.1.1.1.2 t.2.1.1.1.2 t.2.1.1.2.1 t.2.1.1.2.2 t.2.1.2.1.1.1 t.2.1.2.1.1.2 t.2.1.2.1.2 t.2.1.2.2.1 t.2.1.2.2.2 t.2.2.1.1.1.1 t.2.2.1.1.1.2 t.2.2.1.1.2 t.2.2.1.2.1 t.2.2.1.2.2 t.2.2.2.1.1.1 t.2.2.2.1.1.2 t.2.2.2.1.2 t.2.2.2.2.1 t.2.2.2.2.2 := dk (α := Tq) (((((((aWorld 0, default), default), (((fun _ => default), (fun _ => default)), (fun _ => default))), (((default, default), default), (default, default))), ((((default, default), default), (default, default)), (((default, default), default), (default, default)))), (((((default, default), default), (default, default)), (((default, default), default), (default, default))), ((((default, default), ({} : Around)), (default, default)), (((default, (fun _ => default)), ({} : Shared)), ((fun _ _ => True), (fun _ _ => True))))))) _
noncomputable def cq : Tq := Classical.choose exq
@[irreducible] noncomputable def w : World := cq.1.1.1.1.1.1
@[irreducible] noncomputable def p : Program := cq.1.1.1.1.1.2
@[irreducible] noncomputable def loose : List Str := cq.1.1.1.1.2
@[irreducible] noncomputable def mean : ExcName → Option Value := cq.1.1.1.2.1.1
@[irreducible] noncomputable def mg : Str → Option Value := cq.1.1.1.2.1.2
@[irreducible] noncomputable def mb : Str → Option Value := cq.1.1.1.2.2
@[irreducible] noncomputable def T1 : Led := cq.1.1.2.1.1.1
@[irreducible] noncomputable def T2 : Led := cq.1.1.2.1.1.2
@[irreducible] noncomputable def rest : Led := cq.1.1.2.1.2
@[irreducible] noncomputable def u : Int := cq.1.1.2.2.1
@[irreducible] noncomputable def l : Int := cq.1.1.2.2.2
@[irreducible] noncomputable def pl : Int := cq.1.2.1.1.1.1
@[irreducible] noncomputable def wd : Int := cq.1.2.1.1.1.2
@[irreducible] noncomputable def tn : Int := cq.1.2.1.1.2
@[irreducible] noncomputable def sd : Int := cq.1.2.1.2.1
@[irreducible] noncomputable def N : Int := cq.1.2.1.2.2
@[irreducible] noncomputable def A : Int := cq.1.2.2.1.1.1
@[irreducible] noncomputable def t1 : Tok := cq.1.2.2.1.1.2
@[irreducible] noncomputable def t2 : Tok := cq.1.2.2.1.2
@[irreducible] noncomputable def t3 : Tok := cq.1.2.2.2.1
@[irreducible] noncomputable def t4 : Tok := cq.1.2.2.2.2
@[irreducible] noncomputable def t5 : Tok := cq.2.1.1.1.1.1
@[irreducible] noncomputable def t6 : Tok := cq.2.1.1.1.1.2
@[irreducible] noncomputable def R : Led := cq.2.1.1.1.2
@[irreducible] noncomputable def dp : Nat := cq.2.1.1.2.1
@[irreducible] noncomputable def un : Nat := cq.2.1.1.2.2
@[irreducible] noncomputable def gd : Option (List Code) := cq.2.1.2.1.1.1
@[irreducible] noncomputable def cn : Str := cq.2.1.2.1.1.2
@[irreducible] noncomputable def cs : Scope := cq.2.1.2.1.2
@[irreducible] noncomputable def a' : Addr := cq.2.1.2.2.1
@[irreducible] noncomputable def ccd : Value := cq.2.1.2.2.2
@[irreducible] noncomputable def cl : List (Str × Addr) := cq.2.2.1.1.1.1
@[irreducible] noncomputable def outer : List Env := cq.2.2.1.1.1.2
@[irreducible] noncomputable def A₀ : Around := cq.2.2.1.1.2
@[irreducible] noncomputable def base : Heap := cq.2.2.1.2.1
@[irreducible] noncomputable def h₀ : Heap := cq.2.2.1.2.2
@[irreducible] noncomputable def L : Addr := cq.2.2.2.1.1.1
@[irreducible] noncomputable def m : Str → Option Value := cq.2.2.2.1.1.2
@[irreducible] noncomputable def s : Shared := cq.2.2.2.1.2
@[irreducible] noncomputable def Q : Value → Shared → Prop := cq.2.2.2.2.1
@[irreducible] noncomputable def E : Value → Shared → Prop := cq.2.2.2.2.2
noncomputable def cutq : {G : Prop // (∀ (hT : Tabs T1 T2 rest) (hl : 1 < l) (hu : u = l * N) (hN : 0 ≤ N) (hpl : 1 ≤ pl) (hpl2 : pl ≤ 8) (hwd : 4 ≤ wd) (hwd2 : wd ≤ 603) (htn : Unit1 tn) (hts : tn = sd ∨ tn = -sd) (hsd : Unit1 sd) (hA : N % (2 ^ (wd * pl).toNat - 1) = A) (hA0 : 0 < A) (hlb : Builtin.Int.intBits l ≤ 22000) (hub : Builtin.Int.intBits u ≤ 22000) (hR : T1 ++ (T2 ++ rest) = R) (B : Below A₀ base outer h₀) (F : Fr h₀ L s.heap m) (X : (hd.heap_39 w.params).In h₀) (N0 : News h₀ L s.heap R) (T : Top p loose mean mg mb h₀) (hk : cs.kind = .function) (hC1 : CodeHd h₀ 41 37) (hC2 : CodeHd h₀ 48 44) (hd : dp + 30 < recursionLimit) (hu' : un + 400 < cLine) (hret : ∀ r news' h' tk', Fr h₀ L h' m → News h₀ L h' news' → (OutFig rest wd.toNat pl.toNat A) r news' → Q r { s with heap := h', toks := tk' }), G) → Pq w p loose mean mg mb T1 T2 rest u l pl wd tn sd N A t1 t2 t3 t4 t5 t6 R dp un gd cn cs a' ccd cl outer A₀ base h₀ L m s Q E} := ⟨_, fun h9z => by
  unfold Pq
  intro hT hl hu hN hpl hpl2 hwd hwd2 htn hts hsd hA hA0 hlb hub hR B F X N0 T hk hC1 hC2 hd hu' hret
  have h9y := fun (_ : Unit) => h9z hT hl hu hN hpl hpl2 hwd hwd2 htn hts hsd hA hA0 hlb hub hR B F X N0 T hk hC1 hC2 hd hu' hret
  refine wpAny_call ?_
  (k_dflt (refine' code_def ?k1u11 ?k2u11 ?k3u11 ?k4u11 ?k5u11 ?kAu11 ?kFu11 ?kKu11 ?k6u11 ?k7u11 ?k8u11 ?k9u11 ?kBu11 ?_ ?c2u11 ?c3u11 ?c4u11 ?c5u11; (case kAu11 => exact rfl); (case kFu11 => exact rfl); (case kKu11 => assumption); (case k1u11 | k2u11 | k3u11 | k4u11 | k5u11 => k_asm); (case k6u11 => k_is); (case k7u11 => k_is); (case k8u11 => ktr_room); (case k9u11 => exact BindsTo.of_eq rfl); (case c5u11 => decide); (case kBu11 => exact locs rfl); (case c2u11 => exact rfl); (case c3u11 => exact rfl); (case c4u11 => exact rfl); k_whole; intro gz Lz hz FGz Fz Nz Bz Xz Tz; (have Cz := CodeHd.keeps (c := 41) (P := 37) (by assumption) (Fr.keep FGz)); (have Dz := CodeHd.keeps (c := 48) (P := 44) (by assumption) (Fr.keep FGz)); (try dsimp only); (try k_fold)))
  revert Dz
  revert Cz
  revert Tz
  revert Xz
  revert Bz
  revert Nz
  revert Fz
  revert FGz
  revert hz
  revert Lz
  revert gz
  exact h9y ()⟩
noncomputable def pcq : {Pc : Heap → Addr → Heap → Prop // (∀ a b c, Pc a b c) → cutq.1} := ⟨_, fun h => h⟩
theorem exc : ∃ t : ((Heap × Addr) × Heap), pcq.1 t.1.1 t.1.2 t.2 → ∀ t : ((Heap × Addr) × Heap), pcq.1 t.1.1 t.1.2 t.2 := dk (α := ((Heap × Addr) × Heap)) ((default, default), default) _
noncomputable def ccq : ((Heap × Addr) × Heap) := Classical.choose exc
@[irreducible] noncomputable def gz : Heap := ccq.1.1
@[irreducible] noncomputable def Lz : Addr := ccq.1.2
@[irreducible] noncomputable def hz : Heap := ccq.2
theorem core2 (hT : Tabs T1 T2 rest) (hl : 1 < l) (hu : u = l * N) (hN : 0 ≤ N) (hpl : 1 ≤ pl) (hpl2 : pl ≤ 8) (hwd : 4 ≤ wd) (hwd2 : wd ≤ 603) (htn : Unit1 tn) (hts : tn = sd ∨ tn = -sd) (hsd : Unit1 sd) (hA : N % (2 ^ (wd * pl).toNat - 1) = A) (hA0 : 0 < A) (hlb : Builtin.Int.intBits l ≤ 22000) (hub : Builtin.Int.intBits u ≤ 22000) (hR : T1 ++ (T2 ++ rest) = R) (B : Below A₀ base outer h₀) (F : Fr h₀ L s.heap m) (X : (hd.heap_39 w.params).In h₀) (N0 : News h₀ L s.heap R) (T : Top p loose mean mg mb h₀) (hk : cs.kind = .function) (hC1 : CodeHd h₀ 41 37) (hC2 : CodeHd h₀ 48 44) (hd : dp + 30 < recursionLimit) (hu' : un + 400 < cLine) (hret : ∀ r news' h' tk', Fr h₀ L h' m → News h₀ L h' news' → (OutFig rest wd.toNat pl.toNat A) r news' → Q r { s with heap := h', toks := tk' }) : pcq.1 gz Lz hz := by
  have hb1 : Builtin.Int.intBits (tn * u) ≤ 2 ^ 15 := by rw [htn.bits]; omega
  have hb2 : Builtin.Int.intBits (sd * l) ≤ 2 ^ 15 := by rw [hsd.bits]; omega
  have hM := back (N := N) htn hsd
  have hk1 : 0 ≤ wd * pl := Int.mul_nonneg (by omega) (by omega)
  have hk2 : wd * pl ≤ 603 * 8 := Int.mul_le_mul hwd2 hpl2 (by omega) (by omega)
  have hRp := pow_pos' (wd * pl).toNat
  have hR2 : (2 : Int) ≤ 2 ^ (wd * pl).toNat := two_le_pow (by have : 4 * 1 ≤ wd * pl := Int.mul_le_mul hwd hpl (by omega) (by omega); omega)
  have hNb : Builtin.Int.intBits N ≤ 22000 := Nat.le_trans (intBits_mono hN (by rw [hu]; have := Int.mul_le_mul_of_nonneg_right (show 1 ≤ l by omega) hN; omega)) hub
  intro FGz Fz Nz Bz Xz Tz Cz Dz
  walk_at "STEPS"
  (all_goals first | ((with_reducible show Pre _); (try dsimp only); first | (exact Unit1.mulOk (by assumption) _) | (exact Unit1.mulOkR (by assumption) _) | (exact (Unit1.mul (by assumption) (by assumption)).mulOkR _) | (exact mulOk_small (by omega) (by omega)) | (exact IntMulOk.of_bits (by omega) (by omega)) | (exact pow_pre (by omega) (by omega)) | (show _ ≤ _; omega) | (show _ < _; omega) | skip) | skip)
  k_dflt refine' CallOkC.use (idiv_is hT hb1 hb2 (fd_one htn hsd hl hu)) ?k1 ?k2 ?k3 ?k4 ?ks ?k5 ?k6 ?kc1 ?kc2 ?k7 ?k8 ?_
  walk_at "KS"
  case ks => (rw [hR]; exact fun p hp => hp)
  intro r1 news1 h1 tk1 F1 N1 hO0
  obtain ⟨x, tq, tr, U1, U2, er1, en1, hT2, hlt⟩ := hO0
  subst er1; subst en1
  generalize hR3 : U1 ++ (U2 ++ rest) = R3 at N1 hlt
  (try dsimp only); (try k_fold)
  (try simp only [List.cons_append, List.nil_append] at N1)
  (try simp only [AllLt, and_true] at hlt)
  walk_at "STEPS"
  (all_goals first | ((with_reducible show Pre _); (try dsimp only); first | (exact Unit1.mulOk (by assumption) _) | (exact Unit1.mulOkR (by assumption) _) | (exact (Unit1.mul (by assumption) (by assumption)).mulOkR _) | (exact mulOk_small (by omega) (by omega)) | (exact IntMulOk.of_bits (by omega) (by omega)) | (exact pow_pre (by omega) (by omega)) | (show _ ≤ _; omega) | (show _ < _; omega) | skip) | skip)
  have hb3 : Builtin.Int.intBits (tn * (tn * sd * N * (tn * sd))) ≤ 2 ^ 15 := by rw [hM, htn.bits]; exact Nat.le_trans hNb (by decide)
  have hb4 : Builtin.Int.intBits (sd * (2 ^ (wd * pl).toNat - 1)) ≤ 2 ^ 15 := by rw [hsd.bits]; exact Nat.le_trans (intBits_le (k := (wd * pl).toNat) (by omega) (by omega)) (by omega)
  k_dflt refine' CallOkC.use (idiv_is hT2 hb3 hb4 (fd_two hsd hts (R := 2 ^ (wd * pl).toNat - 1) (N := tn * sd * N * (tn * sd)) (by omega) (by rw [hM]; exact hA) hA0)) ?k1 ?k2 ?k3 ?k4 ?ks ?k5 ?k6 ?kc1 ?kc2 ?k7 ?k8 ?_
  walk_at "KS"
  case ks => (rw [hR3]; exact fun p hp => .tail _ hp)
  intro r2 news2 h2 tk2 F2 N2 hO0
  obtain ⟨x2, tq2, tr2, V1, V2, er2, en2, hT3, hlt2⟩ := hO0
  subst er2; subst en2
  generalize hR4 : V1 ++ (V2 ++ rest) = R4 at N2 hlt2
  have hc1 := fd_back (R := 2 ^ (wd * pl).toNat - 1) (A := A) (N := tn * sd * N * (tn * sd)) hts (by rw [hM]; exact hA)
  have hc2 := fd_side (t := tn) (R := 2 ^ (wd * pl).toNat - 1) (A := A) hsd
  have hc3 := fd_abs (t := tn) (s := sd) (R := 2 ^ (wd * pl).toNat - 1) (N := tn * sd * N * (tn * sd)) (by rw [hM]; exact hN) (by omega)
  have hAR : A < 2 ^ (wd * pl).toNat - 1 := by rw [← hA]; exact Int.emod_lt_of_pos N (by omega)
  have hW2 := Nat.le_trans (fd_bits (M := tn * sd * N * (tn * sd)) (by rw [hM]; exact hN) hc3) (show _ ≤ 22001 by rw [hM]; omega)
  have hrb : Builtin.Int.intBits ((2 : Int) ^ (wd * pl).toNat - 1) ≤ 5000 := Nat.le_trans (intBits_le (k := (wd * pl).toNat) (by omega) (by omega)) (by omega)
  generalize fdq tn sd (2 ^ (wd * pl).toNat - 1) (tn * sd * N * (tn * sd)) = W at *
  generalize fdr tn sd (2 ^ (wd * pl).toNat - 1) A = G at *
  have hAb : Builtin.Int.intBits A ≤ (wd * pl).toNat := intBits_le (by omega) (by omega)
  have hcp := cnt_pl (A := A) (wd := wd) (pl := pl) (by omega) (by omega) (by omega)
  obtain ⟨cf1, cf2, cf3, cf4, cf5⟩ := cnt_facts (a := A) (n := wd) (by omega) (by omega) (by omega) (by omega)
  obtain ⟨ho1, ho2, ho3, ho4⟩ := ones_bits (k := (wd * pl).toNat) (l := l) (by omega) (by omega) hlb
  have hWs : Builtin.Int.intBits (W * sd) ≤ 22001 := by rw [Int.mul_comm, hsd.bits]; exact hW2
  have hGs := hsd.bits G
  have hG2 : Builtin.Int.intBits (sd * G) ≤ 5000 := by
    refine Nat.le_trans (intBits_le (k := (wd * pl).toNat) ?_ ?_) (show (wd * pl).toNat ≤ 5000 by omega)
    · rw [hc2]; split <;> omega
    · rw [hc2]; split <;> omega
  (try dsimp only); (try k_fold)
  (try simp only [List.cons_append, List.nil_append] at N2)
  (try simp only [AllLt, and_true] at hlt2)
  by_cases hte : tn = sd
  all_goals (first | rw [if_pos hte] at hc2 | rw [if_neg hte] at hc2)
  all_goals walk_at "STEPS"
  (all_goals first | ((with_reducible show Pre _); (try dsimp only); first | (exact Unit1.mulOk (by assumption) _) | (exact Unit1.mulOkR (by assumption) _) | (exact (Unit1.mul (by assumption) (by assumption)).mulOkR _) | (exact mulOk_small (by omega) (by omega)) | (exact IntMulOk.of_bits (by omega) (by omega)) | (exact pow_pre (by omega) (by omega)) | (show _ ≤ _; omega) | (show _ < _; omega) | skip) | skip)
  · k_dflt refine' CallOkC.use (idiv_is (rest := (_, _) :: rest) (hT3.cons ?klta) (a := tn * ((2 ^ (wd * pl).toNat - 1 + 1) ^ Int.toNat 2 * l - 1)) (by rw [htn.bits]; omega) hb2 (fd_thr_eq hsd hte hl)) ?kx1a ?kx2a ?kx3a ?kx4a ?ksa ?kx5a ?kx6a ?kc1a ?kc2a ?kx7a ?kx8a ?_
    (case kx1a => k_asm); (case kx2a => k_asm); (case kx3a => k_asm); (case kx4a => k_asm); (case kx5a => k_asm); (case kx6a => first | exact rfl | assumption); (case kc1a => assumption); (case kc2a => assumption); (case kx7a => ktr_room); (case kx8a => ktr_units)
    (case ksa => (refine sub_tab (.head _) (by rw [hR4]; walk_at "SUB")))
    (case klta => (rw [hR4]; exact lt_r1 (by assumption)))
    intro r3 news3 h3 tk3 F3 N3 hO0
    obtain ⟨x3, tq3, tr3, W1, W2, er3, en3, hT4, hlt3⟩ := hO0
    subst er3; subst en3
    replace N3 := news_sub N3 (tab_sub (W1 := W1) (W2 := W2) (rest := rest))
    have hlt4 := lt_tab hlt3
    have hT5 := hT4.tail
    generalize hR5 : W1 ++ (W2 ++ rest) = R5 at N3 hlt4
    (try dsimp only); (try k_fold)
    (try simp only [AllLt, and_true] at hlt4)
    walk_at "STEPS"
    · exact hsd.mulOk _
    k_dflt refine' CallOkC.use (i2d_is (w := w) (p := p) (loose := loose) (mean := mean) (mg := mg) (mb := mb) (T := W1) (rest := W2 ++ rest) (a := _) (A := A) (hT5.a.st (hT5.ab.append hT5.ar)) (by omega) (by omega) (by omega) (by omega) (by omega) (by omega)) ?ky1a ?ky2a ?ky3a ?ky4a ?kysa ?ky5a ?ky6a ?kd1a ?kd2a ?ky7a ?ky8a ?_
    (case ky1a => k_asm); (case ky2a => k_asm); (case ky3a => k_asm); (case ky4a => k_asm); (case ky5a => k_asm); (case ky6a => first | exact rfl | assumption); (case kd1a => assumption); (case kd2a => assumption); (case ky7a => ktr_room); (case ky8a => ktr_units)
    (case kysa => (rw [hR5]; walk_at "SUB"))
    intro r4 news4 h4 tk4 F4 N4 hO0
    obtain ⟨D, vs, T4, er4, hvs, en4, hTS, hD⟩ := hO0
    subst er4; subst en4
    have hT4' := hTS.ok
    have hDj := hTS.dj
    generalize hR6 : T4 ++ (W2 ++ rest) = R6 at N4
    have hlen := hvs.length
    have hdl := dig_len wd.toNat (cnt A wd).toNat A
    have hdz := len_zeros (pl - (dig wd.toNat (cnt A wd).toNat A).length).toNat
    (try dsimp only); (try k_fold)
    walk_at "STEPS"
    (rename IntsAre _ (_ ++ _) => hI9)
    exact retFig hret (by k_asm) (by k_asm) (.head _) (by walk_at "SUB") hR6 ((show _ ∧ _ ∧ _ ∧ AllLt _ R6 from by assumption).2.2.2) hT4' hDj hT5 hI9 (by omega) (by omega) cf3
  · k_dflt refine' CallOkC.use (idiv_is (rest := (_, _) :: rest) (hT3.cons ?kltb) (a := tn * ((2 ^ (wd * pl).toNat - 1 + 1) ^ Int.toNat 2 * l - 1)) (by rw [htn.bits]; omega) hb2 (fd_thr_ne hsd (hts.resolve_left hte) hl)) ?kx1b ?kx2b ?kx3b ?kx4b ?ksb ?kx5b ?kx6b ?kc1b ?kc2b ?kx7b ?kx8b ?_
    (case kx1b => k_asm); (case kx2b => k_asm); (case kx3b => k_asm); (case kx4b => k_asm); (case kx5b => k_asm); (case kx6b => first | exact rfl | assumption); (case kc1b => assumption); (case kc2b => assumption); (case kx7b => ktr_room); (case kx8b => ktr_units)
    (case ksb => (refine sub_tab (.head _) (by rw [hR4]; walk_at "SUB")))
    (case kltb => (rw [hR4]; exact lt_r1 (by assumption)))
    intro r3 news3 h3 tk3 F3 N3 hO0
    obtain ⟨x3, tq3, tr3, W1, W2, er3, en3, hT4, hlt3⟩ := hO0
    subst er3; subst en3
    replace N3 := news_sub N3 (tab_sub (W1 := W1) (W2 := W2) (rest := rest))
    have hlt4 := lt_tab hlt3
    have hT5 := hT4.tail
    generalize hR5 : W1 ++ (W2 ++ rest) = R5 at N3 hlt4
    (try dsimp only); (try k_fold)
    (try simp only [AllLt, and_true] at hlt4)
    walk_at "STEPS"
    · exact hsd.mulOk _
    k_dflt refine' CallOkC.use (i2d_is (w := w) (p := p) (loose := loose) (mean := mean) (mg := mg) (mb := mb) (T := W1) (rest := W2 ++ rest) (a := _) (A := A) (hT5.a.st (hT5.ab.append hT5.ar)) (by omega) (by omega) (by omega) (by omega) (by omega) (by omega)) ?ky1b ?ky2b ?ky3b ?ky4b ?kysb ?ky5b ?ky6b ?kd1b ?kd2b ?ky7b ?ky8b ?_
    (case ky1b => k_asm); (case ky2b => k_asm); (case ky3b => k_asm); (case ky4b => k_asm); (case ky5b => k_asm); (case ky6b => first | exact rfl | assumption); (case kd1b => assumption); (case kd2b => assumption); (case ky7b => ktr_room); (case ky8b => ktr_units)
    (case kysb => (rw [hR5]; walk_at "SUB"))
    intro r4 news4 h4 tk4 F4 N4 hO0
    obtain ⟨D, vs, T4, er4, hvs, en4, hTS, hD⟩ := hO0
    subst er4; subst en4
    have hT4' := hTS.ok
    have hDj := hTS.dj
    generalize hR6 : T4 ++ (W2 ++ rest) = R6 at N4
    have hlen := hvs.length
    have hdl := dig_len wd.toNat (cnt A wd).toNat A
    have hdz := len_zeros (pl - (dig wd.toNat (cnt A wd).toNat A).length).toNat
    (try dsimp only); (try k_fold)
    walk_at "STEPS"
    (rename IntsAre _ (_ ++ _) => hI9)
    exact retFig hret (by k_asm) (by k_asm) (.head _) (by walk_at "SUB") hR6 ((show _ ∧ _ ∧ _ ∧ AllLt _ R6 from by assumption).2.2.2) hT4' hDj hT5 hI9 (by omega) (by omega) cf3
theorem coreq : Pq w p loose mean mg mb T1 T2 rest u l pl wd tn sd N A t1 t2 t3 t4 t5 t6 R dp un gd cn cs a' ccd cl outer A₀ base h₀ L m s Q E := by
  with_unfolding_all exact cutq.2 fun hT hl hu hN hpl hpl2 hwd hwd2 htn hts hsd hA hA0 hlb hub hR B F X N0 T hk hC1 hC2 hd hu' hret => pcq.2 fun a b c => Classical.choose_spec exc (core2 hT hl hu hN hpl hpl2 hwd hwd2 htn hts hsd hA hA0 hlb hub hR B F X N0 T hk hC1 hC2 hd hu' hret) ((a, b), c)
theorem allq (w : World) (p : Program) (loose : List Str) (mean : ExcName → Option Value) (mg : Str → Option Value) (mb : Str → Option Value) (T1 : Led) (T2 : Led) (rest : Led) (u : Int) (l : Int) (pl : Int) (wd : Int) (tn : Int) (sd : Int) (N : Int) (A : Int) (t1 : Tok) (t2 : Tok) (t3 : Tok) (t4 : Tok) (t5 : Tok) (t6 : Tok) (R : Led) (dp : Nat) (un : Nat) (gd : Option (List Code)) (cn : Str) (cs : Scope) (a' : Addr) (ccd : Value) (cl : List (Str × Addr)) (outer : List Env) (A₀ : Around) (base : Heap) (h₀ : Heap) (L : Addr) (m : Str → Option Value) (s : Shared) (Q : Value → Shared → Prop) (E : Value → Shared → Prop) : Pq w p loose mean mg mb T1 T2 rest u l pl wd tn sd N A t1 t2 t3 t4 t5 t6 R dp un gd cn cs a' ccd cl outer A₀ base h₀ L m s Q E := by
  with_unfolding_all exact Classical.choose_spec exq coreq ((((((w, p), loose), ((mean, mg), mb)), (((T1, T2), rest), (u, l))), ((((pl, wd), tn), (sd, N)), (((A, t1), t2), (t3, t4)))), (((((t5, t6), R), (dp, un)), (((gd, cn), cs), (a', ccd))), ((((cl, outer), A₀), (base, h₀)), (((L, m), s), (Q, E)))))
end CfigokI
section
variable (w : World) (p : Program) (loose : List Str) (mean : ExcName → Option Value) (mg mb : Str → Option Value)
theorem fig_okI (T1 T2 rest : Led) (u l pl wd tn sd N A : Int) (t1 t2 t3 t4 t5 t6 : Tok) (hT : Tabs T1 T2 rest) (hl : 1 < l) (hu : u = l * N) (hN : 0 ≤ N) (hpl : 1 ≤ pl) (hpl2 : pl ≤ 8) (hwd : 4 ≤ wd) (hwd2 : wd ≤ 603)
   (htn : Unit1 tn) (hts : tn = sd ∨ tn = -sd) (hsd : Unit1 sd) (hA : N % (2 ^ (wd * pl).toNat - 1) = A) (hA0 : 0 < A) (hlb : Builtin.Int.intBits l ≤ 22000) (hub : Builtin.Int.intBits u ≤ 22000) {R : Led} (hR : T1 ++ (T2 ++ rest) = R) {dp : Nat} {un : Nat} {gd : Option (List Code)} {cn : Str} {cs : Scope} {a' : Addr} {ccd : Value} {cl : List (Str × Addr)} {outer : List Env} {A₀ : Around} {base : Heap} {h₀ : Heap} {L : Addr} {m : Str → Option Value} {s : Shared} {Q : Value → Shared → Prop} {E : Value → Shared → Prop}
    (B : Below A₀ base outer h₀) (F : Fr h₀ L s.heap m) (X : (hd.heap_39 w.params).In h₀) (N0 : News h₀ L s.heap R) (T : Top p loose mean mg mb h₀) (hk : cs.kind = .function) (hC1 : CodeHd h₀ 41 37) (hC2 : CodeHd h₀ 48 44) (hd : dp + 30 < recursionLimit) (hu' : un + 400 < cLine) (hret : ∀ r news' h' tk', Fr h₀ L h' m → News h₀ L h' news' → (OutFig rest wd.toNat pl.toNat A) r news' → Q r { s with heap := h', toks := tk' }) :
    wpAny (model PySem.Challenge.pw_sr0065_01 w) (ktrTop dp un gd cn cs L a' ccd cl outer) (call (.ref 143) [.int u t1, .int l t2, .int pl t3, .int wd t4, .int tn t5, .int sd t6]) Q E s :=
  CfigokI.allq w p loose mean mg mb T1 T2 rest u l pl wd tn sd N A t1 t2 t3 t4 t5 t6 R dp un gd cn cs a' ccd cl outer A₀ base h₀ L m s Q E hT hl hu hN hpl hpl2 hwd hwd2 htn hts hsd hA hA0 hlb hub hR B F X N0 T hk hC1 hC2 hd hu' hret
theorem fig_ok (T1 T2 rest : Led) (u l pl wd tn sd N A : Int) (t1 t2 t3 t4 t5 t6 : Tok) (hT : Tabs T1 T2 rest) (hl : 1 < l) (hu : u = l * N) (hN : 0 ≤ N) (hpl : 1 ≤ pl) (hpl2 : pl ≤ 8) (hwd : 4 ≤ wd) (hwd2 : wd ≤ 603)
   (htn : Unit1 tn) (hts : tn = sd ∨ tn = -sd) (hsd : Unit1 sd) (hA : N % (2 ^ (wd * pl).toNat - 1) = A) (hA0 : 0 < A) (hlb : Builtin.Int.intBits l ≤ 22000) (hub : Builtin.Int.intBits u ≤ 22000) :
   CallOkC w p loose mean mg mb 143 [.int u t1, .int l t2, .int pl t3, .int wd t4, .int tn t5, .int sd t6] 30 400 (T1 ++ (T2 ++ rest)) (OutFig rest wd.toNat pl.toNat A) := by
  unfold CallOkC
  intro dp un gd cn cs a' ccd cl outer A₀ base h₀ L m s Q E B F X N0 T hk hC1 hC2 hd hu' hret
  exact fig_okI w p loose mean mg mb T1 T2 rest u l pl wd tn sd N A t1 t2 t3 t4 t5 t6 hT hl hu hN hpl hpl2 hwd hwd2 htn hts hsd hA hA0 hlb hub rfl B F X N0 T hk hC1 hC2 hd hu' hret
end
-- M6
section
/-- what Whitespace.__init__ counts: the runs, the blanks at hand, signs, tabs -/
structure WsSt where
  ns : List Int
  b : Nat
  n : Nat
  t : Nat
/-- count grown to hold b, and one more there -/
noncomputable def bump (ns : List Int) (b : Nat) : List Int :=
  let ms := if ns.length ≤ b then ns ++ List.replicate (b + 1 - ns.length) 0 else ns
  ms.set b (ms.getD b 0 + 1)
noncomputable def wsStep (s : WsSt) (c : Nat) : WsSt :=
  if c = 32 then { s with n := s.n + 1, b := s.b + 1 } else { ns := bump s.ns s.b, b := 0, n := s.n + 1, t := s.t + 1 }
noncomputable def ws0 : WsSt := ⟨[], 0, 0, 0⟩
noncomputable def wsF (cs : List Nat) : WsSt := cs.foldl wsStep ws0
theorem wsF_snoc (cs : List Nat) (c : Nat) : wsF (cs ++ [c]) = wsStep (wsF cs) c := by simp [wsF]
theorem bump_len (ns : List Int) (b : Nat) : (bump ns b).length = max ns.length (b + 1) := by
  unfold bump
  simp only [List.length_set]
  split
  · simp; omega
  · omega
theorem wsF_b (cs : List Nat) : (wsF cs).b ≤ cs.length := by
  unfold wsF
  rw [← Nat.zero_add cs.length, show (0 : Nat) = ws0.b from rfl]
  generalize ws0 = s
  induction cs generalizing s with
  | nil => exact Nat.le_refl _
  | cons c r ih =>
    refine Nat.le_trans (ih _) ?_
    rw [List.length_cons]
    unfold wsStep
    split <;> simp <;> omega
theorem wsF_len (cs : List Nat) : (wsF cs).ns.length ≤ cs.length := by
  suffices h : ∀ s : WsSt, s.ns.length + s.b ≤ (s.ns.length + s.b) → ∀ k, s.ns.length ≤ k → s.b ≤ k → (cs.foldl wsStep s).ns.length ≤ k + cs.length ∧ (cs.foldl wsStep s).b ≤ k + cs.length by
    have := (h ws0 (Nat.le_refl _) 0 (Nat.le_refl _) (Nat.le_refl _)).1
    simpa [wsF] using this
  intro s _ k h1 h2
  induction cs generalizing s k with
  | nil => exact ⟨h1, h2⟩
  | cons c r ih =>
    have := ih (wsStep s c) (Nat.le_refl _) (k + 1) (by unfold wsStep; split <;> simp [bump_len] <;> omega) (by unfold wsStep; split <;> simp <;> omega)
    rw [List.length_cons]
    simp only [List.foldl_cons]
    omega
end
-- W1
theorem fresh_W1 : True := by
  w_top off
  exact trivial
section
variable {prog : Program} {w : World} {A : Around} {E : Value → Shared → Prop} {s : Shared} {env : Env} {h₀ : Heap} {x : Str} {body : List Stmt} {Q : Flow → Shared → Prop} {σ : Type} {m₀ : Str → Option Value}
theorem iter_textR {X : Str} {t₀ : Tok} {Rst : Led} (hd : σ → Addr × Obj) (ps : σ → List (Str × Value)) (stored : List Str) (Inv : Led → Nat → σ → Prop) (c₀ : σ)
    (hh : A.handled = none) (F : Fr h₀ env.locals s.heap m₀) (N : News h₀ env.locals s.heap (hd c₀ :: Rst)) (hk : ∀ p ∈ ps c₀, m₀ p.1 = some p.2) (h0 : Inv Rst 0 c₀)
    (turn : TurnsL prog w A E s env h₀ x body Q m₀ (fun c => hd c :: Rst) ps stored (Inv Rst) X.cps.size (SignAt X))
    (done : DoneL s env h₀ Q m₀ (fun c => hd c :: Rst) ps stored (Inv Rst) X.cps.size) :
    wpAny (model prog w) A (pyIter (.str X t₀)) (fun it s₂ => LoopAtV prog w A h₀ env x body Q E it s₂) E s := iter_text _ ps stored (Inv Rst) c₀ hh F N hk h0 turn done
end
theorem gt_ne {a b : Nat} (h : a < b) : b ≠ a := Nat.ne_of_gt h
theorem flat0 (k : Nat) : (List.replicate k [(0 : Int)]).flatten = List.replicate k 0 := by
  induction k with
  | zero => rfl
  | succ k ih => rw [List.replicate_succ, List.flatten_cons, ih, List.replicate_succ]; rfl
theorem bump_eq1 {ns : List Int} {b : Nat} (h : ns.length ≤ b) :
    (ns ++ (List.replicate ((b : Int) - (ns.length : Int) + 1).toNat [(0 : Int)]).flatten).set (b : Int).toNat ((ns ++ (List.replicate ((b : Int) - (ns.length : Int) + 1).toNat [(0 : Int)]).flatten).getD (b : Int).toNat 0 + 1) = bump ns b := by
  unfold bump
  rw [if_pos h, flat0, show ((b : Int) - (ns.length : Int) + 1).toNat = b + 1 - ns.length by omega, Int.toNat_natCast]
theorem bump_eq2 {ns : List Int} {b : Nat} (h : ¬ ns.length ≤ b) : ns.set (b : Int).toNat (ns.getD (b : Int).toNat 0 + 1) = bump ns b := by
  unfold bump
  rw [if_neg h, Int.toNat_natCast]
noncomputable abbrev wsDict (P : Params) (X : Str) (tx : Tok) (n nt : Nat) (tn tt : Tok) (nm : Addr) (si : Bool) (k1 k2 k3 k4 k5 : Tok) : Obj :=
  dictOf [{ hash := PyData.keyHash P (Str.ofString "raw"), key := .str (Str.ofString "raw") k1, val := .str X tx }, { hash := PyData.keyHash P (Str.ofString "n"), key := .str (Str.ofString "n") k2, val := .int (n : Int) tn },
    { hash := PyData.keyHash P (Str.ofString "nt"), key := .str (Str.ofString "nt") k3, val := .int (nt : Int) tt }, { hash := PyData.keyHash P (Str.ofString "norm"), key := .str (Str.ofString "norm") k4, val := .ref nm },
    { hash := PyData.keyHash P (Str.ofString "is_simple"), key := .str (Str.ofString "is_simple") k5, val := .bool si }] 5
/-- a new Whitespace -/
noncomputable def OutWs (P : Params) (rest : Led) (cs : List Nat) (X : Str) (v : Value) (news' : Led) : Prop :=
  ∃ (x dx nm ct : Addr) (vs : List Value) (tx tn tt tb k1 k2 k3 k4 k5 : Tok) (si : Bool), v = .ref x ∧ IntsAre vs (wsF cs).ns ∧
    news' = (nm, tupO [.ref ct, .int ((wsF cs).b : Int) tb]) :: (ct, tupO vs) :: (x, instObj 132 dx) :: (dx, wsDict P X tx (wsF cs).n (wsF cs).t tn tt nm si k1 k2 k3 k4 k5) :: rest ∧
    @LT.lt Nat _ ct nm ∧ @LT.lt Nat _ x ct ∧ @LT.lt Nat _ dx x ∧ AllLt dx rest
theorem retWs {P : Params} {h₀ h' : Heap} {L x dx nm ct : Addr} {m : Str → Option Value} {rest news : Led} {s : Shared} {Q : Value → Shared → Prop} {cs : List Nat} {X : Str} {vs : List Value} {tx tn tt tb k1 k2 k3 k4 k5 : Tok} {si : Bool} {tk' : Nat} {st : WsSt}
    (hret : ∀ v news' h' tk', Fr h₀ L h' m → News h₀ L h' news' → OutWs P rest cs X v news' → Q v { s with heap := h', toks := tk' })
    (F : Fr h₀ L h' m) (N : News h₀ L h' news) (m4 : (dx, wsDict P X tx st.n st.t tn tt nm si k1 k2 k3 k4 k5) ∈ news) (m1 : (nm, tupO [.ref ct, .int (st.b : Int) tb]) ∈ news) (m2 : (ct, tupO vs) ∈ news) (m3 : (x, instObj 132 dx) ∈ news)
    (hr : ∀ p ∈ rest, p ∈ news) (e : st = wsF cs) (hI : IntsAre vs st.ns) (o1 : @LT.lt Nat _ ct nm) (o2 : @LT.lt Nat _ x ct) (o3 : @LT.lt Nat _ dx x) (o4 : AllLt dx rest) : Q (.ref x) { s with heap := h', toks := tk' } := by
  subst e
  refine hret _ _ h' tk' F ?_ ⟨x, dx, nm, ct, vs, tx, tn, tt, tb, k1, k2, k3, k4, k5, si, rfl, hI, rfl, o1, o2, o3, o4⟩
  exact List.forall_mem_cons.mpr ⟨N _ m1, List.forall_mem_cons.mpr ⟨N _ m2, List.forall_mem_cons.mpr ⟨N _ m3, List.forall_mem_cons.mpr ⟨N _ m4, fun p hp => N p (hr p hp)⟩⟩⟩⟩
noncomputable def AllNe (x : Addr) : Led → Prop
  | [] => True
  | p :: r => @Ne Nat p.1 x ∧ AllNe x r
theorem allNe_of {x : Addr} : ∀ {l : Led}, (∀ p ∈ l, p.1 ≠ x) → AllNe x l
  | [], _ => trivial
  | _ :: _, h => ⟨h _ (.head _), allNe_of fun p hp => h p (.tail _ hp)⟩
theorem text_at {cs tl : List Nat} (hcs : ∀ c ∈ cs, c = 32 ∨ c = 9) {i ch : Nat} (hi : i ≤ cs.length) (h : (⟨(cs ++ 120 :: tl).toArray⟩ : Str).cps[i]? = some ch) :
    (ch = 32 ∧ i < cs.length ∧ cs.take (i + 1) = cs.take i ++ [32]) ∨ (ch = 9 ∧ i < cs.length ∧ cs.take (i + 1) = cs.take i ++ [9]) ∨ (ch = 120 ∧ i = cs.length) := by
  have h' : (cs ++ 120 :: tl)[i]? = some ch := by simpa using h
  by_cases hlt : i < cs.length
  · rw [List.getElem?_append_left hlt] at h'
    have hm := List.mem_of_getElem? h'
    have ht : cs.take (i + 1) = cs.take i ++ [ch] := by rw [List.take_add_one, h']; rfl
    rcases hcs ch hm with rfl | rfl
    · exact .inl ⟨rfl, hlt, ht⟩
    · exact .inr (.inl ⟨rfl, hlt, ht⟩)
  · obtain rfl : i = cs.length := by omega
    rw [List.getElem?_append_right (Nat.le_refl _), Nat.sub_self] at h'
    exact .inr (.inr ⟨by simpa using h'.symm, rfl⟩)
local macro_rules | `(tactic| walk_at "call type:tuple") => `(tactic| (k_here; (with_reducible show wpAny _ _ (call (Value.type _) [Value.ref _]) _ _ _); k_dflt (refine' kde_tupleOf ?k1 ?k2 ?k3 ?k4 ?k5 ?_; (case k1 => k_asm); (case k2 => k_asm); (case k3 => exact News.isList (by k_asm) (by k_mem)); (case k4 => (rw [List.size_toArray]; omega)); (case k5 => exact rfl); k_whole); intro D' h' F' N' l1; (try k_lt l1); (try k_sweep)))
/-- a state of the loop of Whitespace.__init__ -/
structure WsV where
  D : Addr
  vs : List Value
  ep : Nat
  tb : Tok
  tn : Tok
  tt : Tok
  st : WsSt
section
variable (w : World) (p : Program) (loose : List Str) (mean : ExcName → Option Value) (mg mb : Str → Option Value)
end
namespace CwsnewI
noncomputable def Pq (w : World) (p : Program) (loose : List Str) (mean : ExcName → Option Value) (mg : Str → Option Value) (mb : Str → Option Value) (rest : Led) (cs : List Nat) (tl : List Nat) (t : Tok) (dp : Nat) (un : Nat) (gd : Option (List Code)) (cn : Str) (cst : Scope) (a' : Addr) (ccd : Value) (cl : List (Str × Addr)) (outer : List Env) (A₀ : Around) (base : Heap) (h₀ : Heap) (L : Addr) (m : Str → Option Value) (s : Shared) (Q : Value → Shared → Prop) (E : Value → Shared → Prop) : Prop := ∀ (hcs : ∀ c ∈ cs, c = 32 ∨ c = 9) (hlen : cs.length ≤ 9) (B : Below A₀ base outer h₀) (F : Fr h₀ L s.heap m) (X : (hd.heap_39 w.params).In h₀) (N0 : News h₀ L s.heap rest) (T : Top p loose mean mg mb h₀) (hk : cst.kind = .function) (hC1 : CodeHd h₀ 41 37) (hC2 : CodeHd h₀ 48 44) (hd : dp + 10 < recursionLimit) (hu' : un + 100 < cLine) (hret : ∀ r news' h' tk', Fr h₀ L h' m → News h₀ L h' news' → (OutWs w.params rest cs ⟨(cs ++ 120 :: tl).toArray⟩) r news' → Q r { s with heap := h', toks := tk' }),
    wpAny (model PySem.Challenge.pw_sr0065_01 w) (ktrTop dp un gd cn cst L a' ccd cl outer) (call (.ref 132) [.str ⟨(cs ++ 120 :: tl).toArray⟩ t]) Q E s
noncomputable abbrev Tq : Type := (((((World × Program) × ((List Str) × (ExcName → Option Value))) × (((Str → Option Value) × (Str → Option Value)) × Led)) × ((((List Nat) × (List Nat)) × (Tok × Nat)) × ((Nat × (Option (List Code))) × Str))) × ((((Scope × Addr) × (Value × (List (Str × Addr)))) × (((List Env) × Around) × Heap)) × (((Heap × Addr) × (Str → Option Value)) × ((Shared × (Value → Shared → Prop)) × (Value → Shared → Prop)))))
theorem exq : ∃ t : Tq, Pq t.1.1.1.1.1 t.1.1.1.1.2 t.1.1.1.2.1 t.1.1.1.2.2 t.1.1.2.1.1 t.1.1.2.1.2 t.1.1.2.2 t.1.2.1.1.1 t.1.2.1.1.2 t.1.2.1.2.1 t.1.2.1.2.2 t.1.2.2.1.1 t.1.2.2.1.2 t.1.2.2.2 t.2.1.1.1.1 t.2.1.1.1.2 t.2.1.1.2.1 t.2.1.1.2.2 t.2.1.2.1.1 t.2.1.2.1.2 t.2.1.2.2 t.2.2.1.1.1 t.2.2.1.1.2 t.2.2.1.2 t.2.2.2.1.1 t.2.2.2.1.2 t.2.2.2.2 → ∀ t : Tq, Pq t.1.1.1.1.1 t.1.1.1.1.2 t.1.1.1.2.1 t.1.1.1.2.2 t.1.1.2.1.1 t.1.1.2.1.2 t.1.1.2.2 t.1.2.1.1.1 t.1.2.1.1.2 t.1.2.1.2.1 t.1.2.1.2.2 t.1.2.2.1.1 t.1.2.2.1.2 t.1.2.2.2 t.2.1.1.1.1 t.2.1.1.1.2 t.2.1.1.2.1 t.2.1.1.2.2 t.2.1.2.1.1 t.2.1.2.1.2 t.2.1.2.2 t.2.2.1.1.1 t.2.2.1.1.2 t.2.2.1.2 t.2.2.2.1.1 t.2.2.2.1.2 t.2.2.2.2 := dk (α := Tq) ((((((aWorld 0, default), (default, (fun _ => default))), (((fun _ => default), (fun _ => default)), default)), (((default, default), (default, default)), ((default, default), default))), ((((default, default), (default, default)), ((default, ({} : Around)), default)), (((default, default), (fun _ => default)), ((({} : Shared), (fun _ _ => True)), (fun _ _ => True)))))) _
noncomputable def cq : Tq := Classical.choose exq
@[irreducible] noncomputable def w : World := cq.1.1.1.1.1
@[irreducible] noncomputable def p : Program := cq.1.1.1.1.2
@[irreducible] noncomputable def loose : List Str := cq.1.1.1.2.1
@[irreducible] noncomputable def mean : ExcName → Option Value := cq.1.1.1.2.2
@[irreducible] noncomputable def mg : Str → Option Value := cq.1.1.2.1.1
@[irreducible] noncomputable def mb : Str → Option Value := cq.1.1.2.1.2
@[irreducible] noncomputable def rest : Led := cq.1.1.2.2
@[irreducible] noncomputable def cs : List Nat := cq.1.2.1.1.1
@[irreducible] noncomputable def tl : List Nat := cq.1.2.1.1.2
@[irreducible] noncomputable def t : Tok := cq.1.2.1.2.1
@[irreducible] noncomputable def dp : Nat := cq.1.2.1.2.2
@[irreducible] noncomputable def un : Nat := cq.1.2.2.1.1
@[irreducible] noncomputable def gd : Option (List Code) := cq.1.2.2.1.2
@[irreducible] noncomputable def cn : Str := cq.1.2.2.2
@[irreducible] noncomputable def cst : Scope := cq.2.1.1.1.1
@[irreducible] noncomputable def a' : Addr := cq.2.1.1.1.2
@[irreducible] noncomputable def ccd : Value := cq.2.1.1.2.1
@[irreducible] noncomputable def cl : List (Str × Addr) := cq.2.1.1.2.2
@[irreducible] noncomputable def outer : List Env := cq.2.1.2.1.1
@[irreducible] noncomputable def A₀ : Around := cq.2.1.2.1.2
@[irreducible] noncomputable def base : Heap := cq.2.1.2.2
@[irreducible] noncomputable def h₀ : Heap := cq.2.2.1.1.1
@[irreducible] noncomputable def L : Addr := cq.2.2.1.1.2
@[irreducible] noncomputable def m : Str → Option Value := cq.2.2.1.2
@[irreducible] noncomputable def s : Shared := cq.2.2.2.1.1
@[irreducible] noncomputable def Q : Value → Shared → Prop := cq.2.2.2.1.2
@[irreducible] noncomputable def E : Value → Shared → Prop := cq.2.2.2.2
noncomputable def cutq : {Pc : Addr → Addr → Heap → Addr → Addr → Heap → Heap → Heap → Addr → Nat → Heap → Heap → Nat → Addr → Obj → Nat → (Str → Option Value) → Addr → (List Value) → Nat → Tok → Tok → Tok → Tok → (List Int) → Nat → Nat → Nat → Prop // (∀ (hcs : ∀ c ∈ cs, c = 32 ∨ c = 9) (hlen : cs.length ≤ 9) (B : Below A₀ base outer h₀) (F : Fr h₀ L s.heap m) (X : (hd.heap_39 w.params).In h₀) (N0 : News h₀ L s.heap rest) (T : Top p loose mean mg mb h₀) (hk : cst.kind = .function) (hC1 : CodeHd h₀ 41 37) (hC2 : CodeHd h₀ 48 44) (hd : dp + 10 < recursionLimit) (hu' : un + 100 < cLine) (hret : ∀ r news' h' tk', Fr h₀ L h' m → News h₀ L h' news' → (OutWs w.params rest cs ⟨(cs ++ 120 :: tl).toArray⟩) r news' → Q r { s with heap := h', toks := tk' }) a0 a1 a2 a3 a4 a5 a6 a7 a8 a9 a10 a11 a12 a13 a14 a15 a16 a17 a18 a19 a20 a21 a22 a23 a24 a25 a26 a27, Pc a0 a1 a2 a3 a4 a5 a6 a7 a8 a9 a10 a11 a12 a13 a14 a15 a16 a17 a18 a19 a20 a21 a22 a23 a24 a25 a26 a27) → Pq w p loose mean mg mb rest cs tl t dp un gd cn cst a' ccd cl outer A₀ base h₀ L m s Q E} := ⟨_, fun h9z => by
  unfold Pq
  intro hcs hlen B F X N0 T hk hC1 hC2 hd hu' hret
  have h9y := fun (_ : Unit) => h9z hcs hlen B F X N0 T hk hC1 hC2 hd hu' hret
  unfold OutWs at hret
  k_dflt (refine' call_cls ?k1 ?k2 ?k3 ?k4 ?k5 ?k6 ?_; (case k1 => k_asm); (case k2 => k_asm); (case k3 => k_asm); (case k4 => k_is); (case k5 => k_is); (case k6 => k_is); k_whole; intro x' d' h' F' N' l1 l2; (try k_lt l1); (try k_lt2 l2); (try k_sweep))
  (k_dflt (refine' code_def ?k1u12 ?k2u12 ?k3u12 ?k4u12 ?k5u12 ?kAu12 ?kFu12 ?kKu12 ?k6u12 ?k7u12 ?k8u12 ?k9u12 ?kBu12 ?_ ?c2u12 ?c3u12 ?c4u12 ?c5u12; (case kAu12 => exact rfl); (case kFu12 => exact rfl); (case kKu12 => assumption); (case k1u12 | k2u12 | k3u12 | k4u12 | k5u12 => k_asm); (case k6u12 => k_is); (case k7u12 => k_is); (case k8u12 => ktr_room); (case k9u12 => exact BindsTo.of_eq rfl); (case c5u12 => decide); (case kBu12 => exact locs rfl); (case c2u12 => exact rfl); (case c3u12 => exact rfl); (case c4u12 => exact rfl); k_whole; intro gz Lz hz FGz Fz Nz Bz Xz Tz; (have Cz := CodeHd.keeps (c := 41) (P := 37) (by assumption) (Fr.keep FGz)); (have Dz := CodeHd.keeps (c := 48) (P := 44) (by assumption) (Fr.keep FGz)); (try dsimp only); (try k_fold)))
  walk_at "STEPS"
  (rename Fr _ _ _ _ => lF'); (rename News _ _ _ _ => lN')
  with_unfolding_all refine' iter_textR (σ := WsV) (fun c => (c.D, listOf c.vs.toArray c.ep)) (fun c => [(Str.ofString "count", .ref c.D), (Str.ofString "b", .int (c.st.b : Int) c.tb), (Str.ofString "n", .int (c.st.n : Int) c.tn), (Str.ofString "nt", .int (c.st.t : Int) c.tt)]) [Str.ofString "ch"] (fun R i c => i ≤ cs.length ∧ IntsAre c.vs c.st.ns ∧ c.st = wsF (cs.take i) ∧ AllLt c.D R) ⟨_, [], 0, _, _, _, ws0⟩ (by rfl) lF' lN' ?hk ?h0 ?turn ?done
  case hk => (with_unfolding_all kst_all)
  case h0 => exact ⟨Nat.zero_le _, .nil, rfl, by with_unfolding_all assumption⟩
  case done =>
    intro c u h tk ⟨hi, _⟩ _ _
    simp only [List.size_toArray, List.length_append, List.length_cons] at hi
    omega
  case turn =>
    clear lF' lN'
    intro i v c u h tk I oI hi hP hInv hne F' N'
    obtain ⟨D, vs, ep, tb, tn, tt, st⟩ := c
    obtain ⟨hile, hI1, hI2, hDl⟩ := hInv
    simp only [AllLt, and_true] at hDl
    obtain ⟨ch, uch, hch, rfl⟩ := hP
    obtain ⟨ns, b, n, nt⟩ := st
    dsimp only at hI1 hI2 hne F' N' hile
    have hb := wsF_b (cs.take i)
    have hl := wsF_len (cs.take i)
    rw [← hI2, List.length_take] at hb hl
    dsimp only at hb hl
    have hlenI := hI1.length
    have hne1 := (List.forall_mem_cons.mp hne).1
    have hne2 := (List.forall_mem_cons.mp hne).2
    replace hne1 := neN hne1
    have hne3 := allNe_of hne2
    simp only [AllNe, and_true] at hne3
    rename_i y1 Dk y2 l1z y3 y4 y5 y6 y7 y8 l2z y9 y10 y11 y12 y13
    revert l1 l2 FGz Bz Xz Tz Cz Dz l1z hi hile hDl ch hch hne N' hI1 hI2 F' hb hl hlenI hne2 hne1 hne3
    exact h9y () x' d' gz Lz Dk y9 hz h' y7 y10 y13 h tk I oI i u D vs ep tb tn tt uch ns b n nt⟩
theorem exc : ∃ t : (((((Addr × Addr) × (Heap × Addr)) × ((Addr × Heap) × Heap)) × (((Heap × Addr) × (Nat × Heap)) × ((Heap × Nat) × Addr))) × ((((Obj × Nat) × ((Str → Option Value) × Addr)) × (((List Value) × Nat) × Tok)) × (((Tok × Tok) × (Tok × (List Int))) × ((Nat × Nat) × Nat)))), cutq.1 t.1.1.1.1.1 t.1.1.1.1.2 t.1.1.1.2.1 t.1.1.1.2.2 t.1.1.2.1.1 t.1.1.2.1.2 t.1.1.2.2 t.1.2.1.1.1 t.1.2.1.1.2 t.1.2.1.2.1 t.1.2.1.2.2 t.1.2.2.1.1 t.1.2.2.1.2 t.1.2.2.2 t.2.1.1.1.1 t.2.1.1.1.2 t.2.1.1.2.1 t.2.1.1.2.2 t.2.1.2.1.1 t.2.1.2.1.2 t.2.1.2.2 t.2.2.1.1.1 t.2.2.1.1.2 t.2.2.1.2.1 t.2.2.1.2.2 t.2.2.2.1.1 t.2.2.2.1.2 t.2.2.2.2 → ∀ t : (((((Addr × Addr) × (Heap × Addr)) × ((Addr × Heap) × Heap)) × (((Heap × Addr) × (Nat × Heap)) × ((Heap × Nat) × Addr))) × ((((Obj × Nat) × ((Str → Option Value) × Addr)) × (((List Value) × Nat) × Tok)) × (((Tok × Tok) × (Tok × (List Int))) × ((Nat × Nat) × Nat)))), cutq.1 t.1.1.1.1.1 t.1.1.1.1.2 t.1.1.1.2.1 t.1.1.1.2.2 t.1.1.2.1.1 t.1.1.2.1.2 t.1.1.2.2 t.1.2.1.1.1 t.1.2.1.1.2 t.1.2.1.2.1 t.1.2.1.2.2 t.1.2.2.1.1 t.1.2.2.1.2 t.1.2.2.2 t.2.1.1.1.1 t.2.1.1.1.2 t.2.1.1.2.1 t.2.1.1.2.2 t.2.1.2.1.1 t.2.1.2.1.2 t.2.1.2.2 t.2.2.1.1.1 t.2.2.1.1.2 t.2.2.1.2.1 t.2.2.1.2.2 t.2.2.2.1.1 t.2.2.2.1.2 t.2.2.2.2 := dk (α := (((((Addr × Addr) × (Heap × Addr)) × ((Addr × Heap) × Heap)) × (((Heap × Addr) × (Nat × Heap)) × ((Heap × Nat) × Addr))) × ((((Obj × Nat) × ((Str → Option Value) × Addr)) × (((List Value) × Nat) × Tok)) × (((Tok × Tok) × (Tok × (List Int))) × ((Nat × Nat) × Nat))))) (((((default, default), (default, default)), ((default, default), default)), (((default, default), (default, default)), ((default, default), default))), ((((default, default), ((fun _ => default), default)), ((default, default), default)), (((default, default), (default, default)), ((default, default), default)))) _
noncomputable def ccq : (((((Addr × Addr) × (Heap × Addr)) × ((Addr × Heap) × Heap)) × (((Heap × Addr) × (Nat × Heap)) × ((Heap × Nat) × Addr))) × ((((Obj × Nat) × ((Str → Option Value) × Addr)) × (((List Value) × Nat) × Tok)) × (((Tok × Tok) × (Tok × (List Int))) × ((Nat × Nat) × Nat)))) := Classical.choose exc
@[irreducible] noncomputable def x' : Addr := ccq.1.1.1.1.1
@[irreducible] noncomputable def d' : Addr := ccq.1.1.1.1.2
@[irreducible] noncomputable def gz : Heap := ccq.1.1.1.2.1
@[irreducible] noncomputable def Lz : Addr := ccq.1.1.1.2.2
@[irreducible] noncomputable def Dk : Addr := ccq.1.1.2.1.1
@[irreducible] noncomputable def y9 : Heap := ccq.1.1.2.1.2
@[irreducible] noncomputable def hz : Heap := ccq.1.1.2.2
@[irreducible] noncomputable def h' : Heap := ccq.1.2.1.1.1
@[irreducible] noncomputable def y7 : Addr := ccq.1.2.1.1.2
@[irreducible] noncomputable def y10 : Nat := ccq.1.2.1.2.1
@[irreducible] noncomputable def y13 : Heap := ccq.1.2.1.2.2
@[irreducible] noncomputable def h : Heap := ccq.1.2.2.1.1
@[irreducible] noncomputable def tk : Nat := ccq.1.2.2.1.2
@[irreducible] noncomputable def I : Addr := ccq.1.2.2.2
@[irreducible] noncomputable def oI : Obj := ccq.2.1.1.1.1
@[irreducible] noncomputable def i : Nat := ccq.2.1.1.1.2
@[irreducible] noncomputable def u : (Str → Option Value) := ccq.2.1.1.2.1
@[irreducible] noncomputable def D : Addr := ccq.2.1.1.2.2
@[irreducible] noncomputable def vs : (List Value) := ccq.2.1.2.1.1
@[irreducible] noncomputable def ep : Nat := ccq.2.1.2.1.2
@[irreducible] noncomputable def tb : Tok := ccq.2.1.2.2
@[irreducible] noncomputable def tn : Tok := ccq.2.2.1.1.1
@[irreducible] noncomputable def tt : Tok := ccq.2.2.1.1.2
@[irreducible] noncomputable def uch : Tok := ccq.2.2.1.2.1
@[irreducible] noncomputable def ns : (List Int) := ccq.2.2.1.2.2
@[irreducible] noncomputable def b : Nat := ccq.2.2.2.1.1
@[irreducible] noncomputable def n : Nat := ccq.2.2.2.1.2
@[irreducible] noncomputable def nt : Nat := ccq.2.2.2.2
theorem core2 (hcs : ∀ c ∈ cs, c = 32 ∨ c = 9) (hlen : cs.length ≤ 9) (B : Below A₀ base outer h₀) (F : Fr h₀ L s.heap m) (X : (hd.heap_39 w.params).In h₀) (N0 : News h₀ L s.heap rest) (T : Top p loose mean mg mb h₀) (hk : cst.kind = .function) (hC1 : CodeHd h₀ 41 37) (hC2 : CodeHd h₀ 48 44) (hd : dp + 10 < recursionLimit) (hu' : un + 100 < cLine) (hret : ∀ r news' h' tk', Fr h₀ L h' m → News h₀ L h' news' → (OutWs w.params rest cs ⟨(cs ++ 120 :: tl).toArray⟩) r news' → Q r { s with heap := h', toks := tk' }) : cutq.1 x' d' gz Lz Dk y9 hz h' y7 y10 y13 h tk I oI i u D vs ep tb tn tt uch ns b n nt := by
  intro l1 l2 FGz Bz Xz Tz Cz Dz l1z hi hile hDl ch hch hne N' hI1 hI2 F' hb hl hlenI hne2 hne1 hne3
  rcases text_at hcs hile hch with ⟨hc, ht⟩ | ⟨hc, ht⟩ | ⟨hc, ht⟩
  all_goals (subst hc; (try k_fold))
  all_goals walk_at "STEPS"
  · (rename News _ _ _ _ => nE)
    refine TurnOk.intro ⟨D, vs, ep, _, _, _, ⟨ns, b + 1, n + 1, nt⟩⟩ (by assumption) nE (by k_mem) (by (((try dsimp only); (repeat (refine List.forall_mem_cons.mpr ⟨by k_mem, ?_⟩)); first | exact List.forall_mem_nil _ | walk_at "SUB"))) hne (by with_unfolding_all kst_all) ?_ ?_
    · ((intro zq27 h2q27 h3q27; (simp only [List.forall_mem_cons, List.not_mem_nil, false_implies, implies_true, and_true, ne_eq] at h2q27); (simp only [List.contains_cons, List.contains_nil, Bool.or_false, Bool.or_eq_false_iff, beq_eq_false_iff_ne, ne_eq] at h3q27); simp [h2q27, h3q27, kstB]))
    · refine ⟨by omega, hI1, ?_, ?_⟩
      · rw [ht.2, wsF_snoc, ← hI2]; rfl
      · simp only [AllLt, and_true]; exact hDl
  · (rename News _ _ _ _ => nE)
    (rename IntsAre (List.set _ _ _) _ => hs9)
    rw [bump_eq1 (by omega)] at hs9
    refine' TurnOk.intro ⟨_, _, _, _, _, _, ⟨bump ns b, 0, n + 1, nt + 1⟩⟩ (by assumption) nE (by k_mem) ?hn ?hd ?hkk ?hs1 ?hs2
    case hkk => with_unfolding_all kst_all
    case hn => (((try dsimp only); (repeat (refine List.forall_mem_cons.mpr ⟨by k_mem, ?_⟩)); first | exact List.forall_mem_nil _ | walk_at "SUB"))
    case hd => exact List.forall_mem_cons.mpr ⟨gt_ne (show _ ∧ _ ∧ _ ∧ _ from by assumption).2.2.1, hne2⟩
    case hs1 => ((intro zq29 h2q29 h3q29; (simp only [List.forall_mem_cons, List.not_mem_nil, false_implies, implies_true, and_true, ne_eq] at h2q29); (simp only [List.contains_cons, List.contains_nil, Bool.or_false, Bool.or_eq_false_iff, beq_eq_false_iff_ne, ne_eq] at h3q29); simp [h2q29, h3q29, kstB]))
    case hs2 =>
      refine ⟨by omega, hs9, ?_, ?_⟩
      · rw [ht.2, wsF_snoc, ← hI2]; rfl
      · simp only [AllLt, and_true]; exact (show _ ∧ _ ∧ _ ∧ _ ∧ _ ∧ _ ∧ _ ∧ _ from by assumption).2.2.2.2
  · (rename News _ _ _ _ => nE)
    (rename IntsAre (List.set _ _ _) _ => hs9)
    rw [bump_eq2 (by omega)] at hs9
    refine' TurnOk.intro ⟨D, _, _, _, _, _, ⟨bump ns b, 0, n + 1, nt + 1⟩⟩ (by assumption) nE (by k_mem) ?hn2 ?hd2 ?hkk2 ?ht1 ?ht2
    case hkk2 => with_unfolding_all kst_all
    case hn2 => (((try dsimp only); (repeat (refine List.forall_mem_cons.mpr ⟨by k_mem, ?_⟩)); first | exact List.forall_mem_nil _ | walk_at "SUB"))
    case hd2 => exact List.forall_mem_cons.mpr ⟨hne1, hne2⟩
    case ht1 => ((intro zq31 h2q31 h3q31; (simp only [List.forall_mem_cons, List.not_mem_nil, false_implies, implies_true, and_true, ne_eq] at h2q31); (simp only [List.contains_cons, List.contains_nil, Bool.or_false, Bool.or_eq_false_iff, beq_eq_false_iff_ne, ne_eq] at h3q31); simp [h2q31, h3q31, kstB]))
    case ht2 =>
      refine ⟨by omega, hs9, ?_, ?_⟩
      · rw [ht.2, wsF_snoc, ← hI2]; rfl
      · simp only [AllLt, and_true]; exact hDl
  · rw [ht, List.take_length] at hI2
    refine' retWs hret ?kF ?kN ?m4 ?m1 ?m2 ?m3 ?hr hI2 hI1 ?o1 ?o2 ?o3 ?o4
    case kF => k_asm
    case kN => k_asm
    case m3 => k_mem
    case m4 => k_mem
    case m1 => k_mem
    case m2 => k_mem
    case hr => walk_at "SUB"
    case o1 => exact (show _ ∧ _ from by assumption).1
    case o2 => exact (show _ ∧ _ ∧ _ ∧ x' < _ ∧ _ ∧ _ from by assumption).2.2.2.1
    case o3 => assumption
    case o4 => exact allLt_of (by assumption)
theorem coreq : Pq w p loose mean mg mb rest cs tl t dp un gd cn cst a' ccd cl outer A₀ base h₀ L m s Q E := by
  with_unfolding_all exact cutq.2 fun hcs hlen B F X N0 T hk hC1 hC2 hd hu' hret a0 a1 a2 a3 a4 a5 a6 a7 a8 a9 a10 a11 a12 a13 a14 a15 a16 a17 a18 a19 a20 a21 a22 a23 a24 a25 a26 a27 => Classical.choose_spec exc (core2 hcs hlen B F X N0 T hk hC1 hC2 hd hu' hret) (((((a0, a1), (a2, a3)), ((a4, a5), a6)), (((a7, a8), (a9, a10)), ((a11, a12), a13))), ((((a14, a15), (a16, a17)), ((a18, a19), a20)), (((a21, a22), (a23, a24)), ((a25, a26), a27))))
theorem allq (w : World) (p : Program) (loose : List Str) (mean : ExcName → Option Value) (mg : Str → Option Value) (mb : Str → Option Value) (rest : Led) (cs : List Nat) (tl : List Nat) (t : Tok) (dp : Nat) (un : Nat) (gd : Option (List Code)) (cn : Str) (cst : Scope) (a' : Addr) (ccd : Value) (cl : List (Str × Addr)) (outer : List Env) (A₀ : Around) (base : Heap) (h₀ : Heap) (L : Addr) (m : Str → Option Value) (s : Shared) (Q : Value → Shared → Prop) (E : Value → Shared → Prop) : Pq w p loose mean mg mb rest cs tl t dp un gd cn cst a' ccd cl outer A₀ base h₀ L m s Q E := by
  with_unfolding_all exact Classical.choose_spec exq coreq (((((w, p), (loose, mean)), ((mg, mb), rest)), (((cs, tl), (t, dp)), ((un, gd), cn))), ((((cst, a'), (ccd, cl)), ((outer, A₀), base)), (((h₀, L), m), ((s, Q), E))))
end CwsnewI
section
variable (w : World) (p : Program) (loose : List Str) (mean : ExcName → Option Value) (mg mb : Str → Option Value)
theorem ws_newI (rest : Led) (cs tl : List Nat) (t : Tok) (hcs : ∀ c ∈ cs, c = 32 ∨ c = 9) (hlen : cs.length ≤ 9) {dp : Nat} {un : Nat} {gd : Option (List Code)} {cn : Str} {cst : Scope} {a' : Addr} {ccd : Value} {cl : List (Str × Addr)} {outer : List Env} {A₀ : Around} {base : Heap} {h₀ : Heap} {L : Addr} {m : Str → Option Value} {s : Shared} {Q : Value → Shared → Prop} {E : Value → Shared → Prop}
    (B : Below A₀ base outer h₀) (F : Fr h₀ L s.heap m) (X : (hd.heap_39 w.params).In h₀) (N0 : News h₀ L s.heap rest) (T : Top p loose mean mg mb h₀) (hk : cst.kind = .function) (hC1 : CodeHd h₀ 41 37) (hC2 : CodeHd h₀ 48 44) (hd : dp + 10 < recursionLimit) (hu' : un + 100 < cLine) (hret : ∀ r news' h' tk', Fr h₀ L h' m → News h₀ L h' news' → (OutWs w.params rest cs ⟨(cs ++ 120 :: tl).toArray⟩) r news' → Q r { s with heap := h', toks := tk' }) :
    wpAny (model PySem.Challenge.pw_sr0065_01 w) (ktrTop dp un gd cn cst L a' ccd cl outer) (call (.ref 132) [.str ⟨(cs ++ 120 :: tl).toArray⟩ t]) Q E s :=
  CwsnewI.allq w p loose mean mg mb rest cs tl t dp un gd cn cst a' ccd cl outer A₀ base h₀ L m s Q E hcs hlen B F X N0 T hk hC1 hC2 hd hu' hret
theorem ws_new (rest : Led) (cs tl : List Nat) (t : Tok) (hcs : ∀ c ∈ cs, c = 32 ∨ c = 9) (hlen : cs.length ≤ 9) :
   CallOkC w p loose mean mg mb 132 [.str ⟨(cs ++ 120 :: tl).toArray⟩ t] 10 100 rest (OutWs w.params rest cs ⟨(cs ++ 120 :: tl).toArray⟩) := by
  unfold CallOkC
  intro dp un gd cn cst a' ccd cl outer A₀ base h₀ L m s Q E B F X N0 T hk hC1 hC2 hd hu' hret
  exact ws_newI w p loose mean mg mb rest cs tl t hcs hlen B F X N0 T hk hC1 hC2 hd hu' hret
end
-- E1
section
open PySem.SeqAt
theorem succ_beq (a b : Nat) : (a + 1 == b + 1) = (a == b) := by by_cases h : a = b <;> simp [h]
theorem all_getD : ∀ (ns ms : List Int), ((List.range (min ns.length ms.length)).all (fun j => ns.getD j 0 == ms.getD j 0) && ns.length == ms.length) = (ns == ms) := by
  intro ns
  induction ns with
  | nil => intro ms; cases ms <;> simp
  | cons n ns ih =>
    intro ms
    cases ms with
    | nil => simp
    | cons m ms =>
      have := ih ms
      simp only [List.length_cons, Nat.succ_min_succ, List.range_succ_eq_map, List.all_cons, List.all_map, List.getD_cons_zero, List.cons_beq_cons]
      rw [← this]
      simp only [Function.comp_def, List.getD_cons_succ, Bool.and_assoc, Nat.succ_eq_add_one, succ_beq]
theorem intsAre_at {vs : List Value} {ns : List Int} (h : IntsAre vs ns) : ∀ j (hj : j < vs.length), ∃ t, vs[j] = .int (ns.getD j 0) t := by
  induction h with
  | nil => intro j hj; cases hj
  | cons i t _ ih =>
    intro j hj
    cases j with
    | zero => exact ⟨t, rfl⟩
    | succ j => obtain ⟨u, e⟩ := ih j (Nat.lt_of_succ_lt_succ hj); exact ⟨u, by simpa using e⟩
section
variable {A : Around} {s : Shared}
theorem rc_ints {a b : Addr} {vs ws : List Value} {ns ms : List Int} (h1 : s.heap.IsTuple a vs.toArray) (h2 : s.heap.IsTuple b ws.toArray) (i1 : IntsAre vs ns) (i2 : IntsAre ws ms) (hu : A.units < cLine) :
    RcAt A s (.ref a) (.ref b) (ns == ms) := by
  have := RcAt.tuples (e := fun j => ns.getD j 0 == ms.getD j 0) h1 h2 hu fun j h1 h2 => by
    obtain ⟨t, e⟩ := intsAre_at i1 j (by simpa using h1)
    obtain ⟨u, e'⟩ := intsAre_at i2 j (by simpa using h2)
    simp only [List.getElem_toArray, e, e']
    exact EqAt.int_int _ _ _ _
  rw [List.size_toArray, List.size_toArray, i1.length, i2.length, all_getD] at this
  exact this
theorem rc_norm {a b c d : Addr} {vs ws : List Value} {ns ms : List Int} {x y : Int} {t u : Tok} (h1 : s.heap.IsTuple a #[.ref c, .int x t]) (h2 : s.heap.IsTuple b #[.ref d, .int y u]) (h3 : s.heap.IsTuple c vs.toArray) (h4 : s.heap.IsTuple d ws.toArray)
    (i1 : IntsAre vs ns) (i2 : IntsAre ws ms) (ne : c ≠ d) (hu : A.in1.units < cLine) (hu' : A.units < cLine) : RcAt A s (.ref a) (.ref b) (ns == ms && x == y) := by
  have := RcAt.tuples (e := fun j => if j = 0 then ns == ms else x == y) h1 h2 hu' fun j h1 h2 => by
    have hj : j < 2 := h1
    match j, hj with
    | 0, _ => exact EqAt.of_refs ne (rc_ints h3 h4 i1 i2 hu)
    | 1, _ => exact EqAt.int_int _ _ _ _
  have e : (List.range (min (#[Value.ref c, Value.int x t] : Array Value).size (#[Value.ref d, Value.int y u] : Array Value).size)).all (fun j => if j = 0 then ns == ms else x == y) = (ns == ms && x == y) := by
    simp [List.range_succ]
  rw [e] at this
  simpa using this
end
end
-- W2
theorem fresh_W2 : True := by
  w_top off
  exact trivial
theorem natb (a b : Nat) : ((a : Int) == (b : Int)) = (a == b) := by
  by_cases h : a = b
  · subst h; simp only [beq_self_eq_true]
  · rw [beq_eq_false_iff_ne.mpr h, beq_eq_false_iff_ne.mpr (by omega)]
theorem norm_P {prog : Program} {w : World} {A : Around} {E : Value → Shared → Prop} {s : Shared} {h₀ : Heap} {L : Addr} {news : Led} {Q : Value → Shared → Prop} {a b c d : Addr} {vs ws : List Value} {ns ms : List Int} {x y : Int} {t u : Tok}
    (N : News h₀ L s.heap news) (m1 : (a, tupO [.ref c, .int x t]) ∈ news) (m2 : (b, tupO [.ref d, .int y u]) ∈ news) (m3 : (c, tupO vs) ∈ news) (m4 : (d, tupO ws) ∈ news) (i1 : IntsAre vs ns) (i2 : IntsAre ws ms) (ne : @Ne Nat c d)
    (hu : A.in1.units < cLine) (hu' : A.units < cLine) (h : Q (.bool (ns == ms && x == y)) s) : wpAny (model prog w) A (compareOp .Eq (.ref a) (.ref b)) Q E s :=
  cmp_ofEq (rc_norm ⟨_, (N _ m1).1, rfl, _, rfl⟩ ⟨_, (N _ m2).1, rfl, _, rfl⟩ ⟨_, (N _ m3).1, rfl, _, rfl⟩ ⟨_, (N _ m4).1, rfl, _, rfl⟩ i1 i2 ne hu hu' prog w E Q h)
local macro_rules | `(tactic| walk_at "compareOp Eq ref ref") => `(tactic| (k_here; k_dflt (refine' norm_P ?N ?m1 ?m2 ?m3 ?m4 ?i1 ?i2 ?ne ?u1 ?u2 ?_; (case N => k_asm); (case m1 => k_mem); (case m2 => k_mem); (case m3 => k_mem); (case m4 => k_mem); (case i1 => assumption); (case i2 => assumption); (case ne => assumption); (case u1 => ktr_units); (case u2 => ktr_units); k_whole)))
section
variable (w : World) (p : Program) (loose : List Str) (mean : ExcName → Option Value) (mg mb : Str → Option Value)
/-- the ledger of a Whitespace -/
noncomputable abbrev wsLed (P : Params) (x dx nm ct : Addr) (vs : List Value) (n t b : Nat) (X : Str) (tx tn tt tb k1 k2 k3 k4 k5 : Tok) (si : Bool) (rest : Led) : Led :=
  (nm, tupO [.ref ct, .int (b : Int) tb]) :: (ct, tupO vs) :: (x, instObj 132 dx) :: (dx, wsDict P X tx n t tn tt nm si k1 k2 k3 k4 k5) :: rest
theorem ws_eq (rest : Led) (x dx nm ct : Addr) (vs : List Value) (n t b : Nat) (X : Str) (tx tn tt tb k1 k2 k3 k4 k5 : Tok) (si : Bool) (ns : List Int) (y dy nm' ct' : Addr) (vs' : List Value) (n' t' b' : Nat) (X' : Str) (tx' tn' tt' tb' k1' k2' k3' k4' k5' : Tok) (si' : Bool) (ns' : List Int)
   (hI : IntsAre vs ns) (hI' : IntsAre vs' ns') (hne : @Ne Nat ct ct') :
   CallOkC w p loose mean mg mb 108 [.ref x, .ref y] 10 100 (wsLed w.params x dx nm ct vs n t b X tx tn tt tb k1 k2 k3 k4 k5 si (wsLed w.params y dy nm' ct' vs' n' t' b' X' tx' tn' tt' tb' k1' k2' k3' k4' k5' si' rest)) (fun v news' => v = .bool (ns == ns' && b == b') ∧ news' = (wsLed w.params x dx nm ct vs n t b X tx tn tt tb k1 k2 k3 k4 k5 si (wsLed w.params y dy nm' ct' vs' n' t' b' X' tx' tn' tt' tb' k1' k2' k3' k4' k5' si' rest))) := by
  unfold CallOkC
  intro dp un gd cn cst a' ccd cl outer A₀ base h₀ L m s Q E B F X N0 T hk hC1 hC2 hd hu' hret
  refine wpAny_call ?_
  (k_dflt (refine' code_def ?k1u15 ?k2u15 ?k3u15 ?k4u15 ?k5u15 ?kAu15 ?kFu15 ?kKu15 ?k6u15 ?k7u15 ?k8u15 ?k9u15 ?kBu15 ?_ ?c2u15 ?c3u15 ?c4u15 ?c5u15; (case kAu15 => exact rfl); (case kFu15 => exact rfl); (case kKu15 => assumption); (case k1u15 | k2u15 | k3u15 | k4u15 | k5u15 => k_asm); (case k6u15 => k_is); (case k7u15 => k_is); (case k8u15 => ktr_room); (case k9u15 => exact BindsTo.of_eq rfl); (case c5u15 => decide); (case kBu15 => exact locs rfl); (case c2u15 => exact rfl); (case c3u15 => exact rfl); (case c4u15 => exact rfl); k_whole; intro gz Lz hz FGz Fz Nz Bz Xz Tz; (have Cz := CodeHd.keeps (c := 41) (P := 37) (by assumption) (Fr.keep FGz)); (have Dz := CodeHd.keeps (c := 48) (P := 44) (by assumption) (Fr.keep FGz)); (try dsimp only); (try k_fold)))
  walk_at "STEPS"
  exact hret _ _ _ _ (by k_asm) (by k_asm) ⟨by rw [natb], rfl⟩
end
-- W3
theorem fresh_W3 : True := by
  w_top off
  exact trivial
section
/-- what _strcoll tells -/
noncomputable def coll (a b : List Nat) : Int := b2i (decide (b < a)) - b2i (decide (a < b))
section
variable (w : World) (p : Program) (loose : List Str) (mean : ExcName → Option Value) (mg mb : Str → Option Value)
theorem coll_ok (rest : Led) (X Y : Str) (tx ty : Tok) :
   CallOkC w p loose mean mg mb 70 [.str X tx, .str Y ty] 10 100 rest (fun v news' => (∃ t, v = .int (coll X.cps.toList Y.cps.toList) t) ∧ news' = rest) := by
  unfold CallOkC
  intro dp un gd cn cst a' ccd cl outer A₀ base h₀ L m s Q E B F X N0 T hk hC1 hC2 hd hu' hret
  refine wpAny_call ?_
  (k_dflt (refine' code_def ?k1u16 ?k2u16 ?k3u16 ?k4u16 ?k5u16 ?kAu16 ?kFu16 ?kKu16 ?k6u16 ?k7u16 ?k8u16 ?k9u16 ?kBu16 ?_ ?c2u16 ?c3u16 ?c4u16 ?c5u16; (case kAu16 => exact rfl); (case kFu16 => exact rfl); (case kKu16 => assumption); (case k1u16 | k2u16 | k3u16 | k4u16 | k5u16 => k_asm); (case k6u16 => k_is); (case k7u16 => k_is); (case k8u16 => ktr_room); (case k9u16 => exact BindsTo.of_eq rfl); (case c5u16 => decide); (case kBu16 => exact locs rfl); (case c2u16 => exact rfl); (case c3u16 => exact rfl); (case c4u16 => exact rfl); k_whole; intro gz Lz hz FGz Fz Nz Bz Xz Tz; (have Cz := CodeHd.keeps (c := 41) (P := 37) (by assumption) (Fr.keep FGz)); (have Dz := CodeHd.keeps (c := 48) (P := 44) (by assumption) (Fr.keep FGz)); (try dsimp only); (try k_fold)))
  walk_at "STEPS"
  exact hret _ _ _ _ (by k_asm) (by k_asm) ⟨⟨_, rfl⟩, rfl⟩
end
end
-- L3
section
open PyProof.V PySem.Spec
section
variable {prog : Program} {w : World} {A : Around} {E : Value → Shared → Prop} {s : Shared} {env : Env} {h₀ : Heap} {body : List Stmt} {Q : Flow → Shared → Prop}
end
namespace Cforled
noncomputable def Pq (prog : Program) (w : World) (A : Around) (E : Value → Shared → Prop) (s : Shared) (env : Env) (h₀ : Heap) (body : List Stmt) (Q : Flow → Shared → Prop) (target : Expr) (I : Addr) (fp : List Addr) (n : Nat) (P : Nat → Value → Prop) (St : Nat → Heap → Prop) (m₀ : Str → Option Value) (stored : List Str) : Prop := ∀ (σ : Type) (Lg : σ → Led) (ps : σ → List (Str × Value)) (Inv : Nat → σ → Prop) (c₀ : σ) (hE : PassesOwn (model prog w) A env E) (W : Walks prog w A I fp [I] n P St) (hfp : ∀ b ∈ fp, b = I ∨ (∃ o, ∀ c, (b, o) ∈ Lg c) ∨ ∃ o, h₀.get? b = some o) (hI₀ : h₀.get? I = none) (hIs : ∀ i h, St i h → ∃ o, h.get? I = some o) (hLf : env.locals ∉ fp) (hgo : ∀ i (s' : Shared) v (Q' : Unit → Shared → Prop), St i s'.heap → Q' () s' → wpAny (model prog w) A (letOwnedTupleGo target (.ref I) v) Q' E s') (hst : St 0 s.heap) (F : Fr h₀ env.locals s.heap m₀) (N : News h₀ env.locals s.heap (Lg c₀)) (hnI : ∀ p ∈ Lg c₀, p.1 ≠ I) (hk : ∀ p ∈ ps c₀, m₀ p.1 = some p.2) (h0 : Inv 0 c₀) (turn : ∀ i v c (u : Str → Option Value) h tk oI, i < n → P i v → Inv i c → (∀ p ∈ Lg c, p.1 ≠ I) → Fr h₀ env.locals h (kstB (fun z => if stored.contains z then u z else m₀ z) (ps c)) → News h₀ env.locals h ((I, oI) :: Lg c) →
      wpAny (model prog w) A (assign target env v) (fun _ s₂ => wpAny (model prog w) A (execs body env) (TurnP h₀ env.locals { s with heap := h, toks := tk } I oI Lg ps stored m₀ (Inv (i + 1)) Q) E s₂) E { s with heap := h, toks := tk }) (done : ∀ c (u : Str → Option Value) h tk, Inv n c → Fr h₀ env.locals h (kstB (fun z => if stored.contains z then u z else m₀ z) (ps c)) → News h₀ env.locals h (Lg c) → Q .next { s with heap := h, toks := tk }),
    codeAny (model prog w) A (.forLoop target (.ref I) body [] env) (fun r s' => match r with | .ok f => Q f s' | .error e => cameBackBy (model prog w) A env E e s') s
noncomputable abbrev Tq : Type := (((((Program × World) × Around) × ((Value → Shared → Prop) × Shared)) × ((Env × Heap) × ((List Stmt) × (Flow → Shared → Prop)))) × (((Expr × Addr) × ((List Addr) × Nat)) × (((Nat → Value → Prop) × (Nat → Heap → Prop)) × ((Str → Option Value) × (List Str)))))
theorem exq : ∃ t : Tq, Pq t.1.1.1.1.1 t.1.1.1.1.2 t.1.1.1.2 t.1.1.2.1 t.1.1.2.2 t.1.2.1.1 t.1.2.1.2 t.1.2.2.1 t.1.2.2.2 t.2.1.1.1 t.2.1.1.2 t.2.1.2.1 t.2.1.2.2 t.2.2.1.1 t.2.2.1.2 t.2.2.2.1 t.2.2.2.2 → ∀ t : Tq, Pq t.1.1.1.1.1 t.1.1.1.1.2 t.1.1.1.2 t.1.1.2.1 t.1.1.2.2 t.1.2.1.1 t.1.2.1.2 t.1.2.2.1 t.1.2.2.2 t.2.1.1.1 t.2.1.1.2 t.2.1.2.1 t.2.1.2.2 t.2.2.1.1 t.2.2.1.2 t.2.2.2.1 t.2.2.2.2 := dk (α := Tq) ((((((default, aWorld 0), ({} : Around)), ((fun _ _ => True), ({} : Shared))), ((default, default), (default, (fun _ _ => True)))), (((default, default), (default, default)), (((fun _ _ => True), (fun _ _ => True)), ((fun _ => default), default))))) _
noncomputable def cq : Tq := Classical.choose exq
@[irreducible] noncomputable def prog : Program := cq.1.1.1.1.1
@[irreducible] noncomputable def w : World := cq.1.1.1.1.2
@[irreducible] noncomputable def A : Around := cq.1.1.1.2
@[irreducible] noncomputable def E : Value → Shared → Prop := cq.1.1.2.1
@[irreducible] noncomputable def s : Shared := cq.1.1.2.2
@[irreducible] noncomputable def env : Env := cq.1.2.1.1
@[irreducible] noncomputable def h₀ : Heap := cq.1.2.1.2
@[irreducible] noncomputable def body : List Stmt := cq.1.2.2.1
@[irreducible] noncomputable def Q : Flow → Shared → Prop := cq.1.2.2.2
@[irreducible] noncomputable def target : Expr := cq.2.1.1.1
@[irreducible] noncomputable def I : Addr := cq.2.1.1.2
@[irreducible] noncomputable def fp : List Addr := cq.2.1.2.1
@[irreducible] noncomputable def n : Nat := cq.2.1.2.2
@[irreducible] noncomputable def P : Nat → Value → Prop := cq.2.2.1.1
@[irreducible] noncomputable def St : Nat → Heap → Prop := cq.2.2.1.2
@[irreducible] noncomputable def m₀ : Str → Option Value := cq.2.2.2.1
@[irreducible] noncomputable def stored : List Str := cq.2.2.2.2
theorem coreq : Pq prog w A E s env h₀ body Q target I fp n P St m₀ stored := by
  unfold Pq
  intro σ Lg ps Inv c₀ hE W hfp hI₀ hIs hLf hgo hst F N hnI hk h0 turn done
  have hIf : I ∈ fp := W.sub I (by simp)
  have hLI : env.locals ≠ I := fun e => hLf (e ▸ hIf)
  have fr : ∀ {m : Str → Option Value} {c : σ}, (∀ p ∈ ps c, m p.1 = some p.2) → (∀ z, (∀ p ∈ ps c, z ≠ p.1) → stored.contains z = false → m z = m₀ z) → kstB (fun z => if stored.contains z then m z else m₀ z) (ps c) = m := by
    intro m c h1 h2
    funext y
    refine kstB_eq h1 fun hn => ?_
    show (if stored.contains y = true then m y else m₀ y) = m y
    cases h3 : stored.contains y with
    | true => simp
    | false => simp only [Bool.false_eq_true, if_false]; exact (h2 y hn h3).symm
  have old : ∀ b o, h₀.get? b = some o → b ∉ [I] := fun b o e hb => by rw [List.mem_singleton.mp hb, hI₀] at e; cases e
  refine codeAny_forLoop_any
    (fun k s' => ∃ h' tk m' c i, s' = { s with heap := h', toks := tk } ∧ St i h' ∧ Fr h₀ env.locals h' m' ∧ News h₀ env.locals h' (Lg c) ∧ (∀ p ∈ Lg c, p.1 ≠ I) ∧ (∀ p ∈ ps c, m' p.1 = some p.2) ∧
      (∀ z, (∀ p ∈ ps c, z ≠ p.1) → stored.contains z = false → m' z = m₀ z) ∧ Inv i c ∧ i ≤ n ∧ k = n + 1 - i) ?_ (n + 1)
    ⟨s.heap, s.toks, m₀, c₀, 0, rfl, hst, F, N, hnI, hk, fun _ _ _ => rfl, h0, Nat.zero_le _, rfl⟩
  rintro k s' ⟨h', tk, m', c, i, rfl, hst', F', N', hnI', hk', hr', hJ, hi, rfl⟩
  have next : ∀ h₁ : Heap, (∀ b o, b ∉ [I] → h'.get? b = some o → h₁.get? b = some o) → Fr h₀ env.locals h₁ m' ∧ News h₀ env.locals h₁ (Lg c) := fun h₁ hk₁ =>
    ⟨⟨F'.ns.at' fun o e => hk₁ _ o (by simpa using hLI) e, fun b o e => hk₁ b o (old b o e) (F'.keep b o e), F'.above⟩, fun p hp => ⟨hk₁ _ _ (by simpa using hnI' p hp) (N' p hp).1, (N' p hp).2⟩⟩
  by_cases hlt : i < n
  · refine W.item i _ _ _ hlt hst' fun v h₁ tk₁ hP hst₁ hk₁ => ?_
    obtain ⟨F₁, N₁⟩ := next h₁ hk₁
    obtain ⟨oI, hoI⟩ := hIs _ _ hst₁
    refine wpAny_passesOwn hE (hgo (i + 1) _ v _ hst₁ ?_)
    have F₁' := F₁
    rw [← fr hk' hr'] at F₁'
    refine wpAny_mono (turn i v c m' h₁ tk₁ oI hlt hP hJ hnI' F₁' (fun p hp => ?_)) (fun _ s₂ h₂ => wpAny_passesOwn hE (wpAny_mono h₂ (fun f s₃ h₃ => ?_) fun _ _ e => e)) hE
    · rcases List.mem_cons.mp hp with rfl | hp
      · exact ⟨hoI, Ne.symm hLI, hI₀⟩
      · exact N₁ p hp
    · have fin : TurnOk h₀ env.locals { s with heap := h₁, toks := tk₁ } I oI Lg ps stored m₀ (Inv (i + 1)) s₃ → ∃ k', k' < n + 1 - i ∧ ∃ h' tk m' c i, s₃ = { s with heap := h', toks := tk } ∧ St i h' ∧ Fr h₀ env.locals h' m' ∧ News h₀ env.locals h' (Lg c) ∧ (∀ p ∈ Lg c, p.1 ≠ I) ∧ (∀ p ∈ ps c, m' p.1 = some p.2) ∧
          (∀ z, (∀ p ∈ ps c, z ≠ p.1) → stored.contains z = false → m' z = m₀ z) ∧ Inv i c ∧ i ≤ n ∧ k' = n + 1 - i := by
        rintro ⟨c', h₃, tk₃, m₃, news₃, e, F₃, N₃, mI, hn, hd, hk₃, hr₃, hi₃⟩
        refine ⟨n + 1 - (i + 1), by omega, h₃, tk₃, m₃, c', i + 1, e, ?_, F₃, fun p hp => N₃ p (hn p hp), hd, hk₃, hr₃, hi₃, hlt, rfl⟩
        refine W.frame _ _ _ hst₁ fun b hb o e => ?_
        rcases hfp b hb with rfl | ⟨o', ho'⟩ | ⟨o', ho'⟩
        · rw [hoI] at e; cases e; exact (N₃ _ mI).1
        · have a := (N₁ _ (ho' c)).1
          rw [show (b, o').1 = b from rfl, e] at a; cases a
          exact (N₃ _ (hn _ (ho' c'))).1
        · have a := F₁.keep b o' ho'
          rw [e] at a; cases a
          exact F₃.keep b o ho'
      cases f with
      | next => exact fin h₃
      | cont => exact fin h₃
      | brk => exact h₃
      | ret v => exact h₃
  · obtain rfl : i = n := Nat.le_antisymm hi (Nat.not_lt.mp hlt)
    refine W.done _ _ _ hst' fun h₁ tk₁ hk₁ => wpAny_execs_nil ?_
    obtain ⟨F₁, N₁⟩ := next h₁ hk₁
    rw [← fr hk' hr'] at F₁
    exact done c m' h₁ tk₁ hJ F₁ N₁
theorem allq (prog : Program) (w : World) (A : Around) (E : Value → Shared → Prop) (s : Shared) (env : Env) (h₀ : Heap) (body : List Stmt) (Q : Flow → Shared → Prop) (target : Expr) (I : Addr) (fp : List Addr) (n : Nat) (P : Nat → Value → Prop) (St : Nat → Heap → Prop) (m₀ : Str → Option Value) (stored : List Str) : Pq prog w A E s env h₀ body Q target I fp n P St m₀ stored := by
  with_unfolding_all exact Classical.choose_spec exq coreq (((((prog, w), A), (E, s)), ((env, h₀), (body, Q))), (((target, I), (fp, n)), ((P, St), (m₀, stored))))
end Cforled
section
variable {prog : Program} {w : World} {A : Around} {E : Value → Shared → Prop} {s : Shared} {env : Env} {h₀ : Heap} {body : List Stmt} {Q : Flow → Shared → Prop}
/-- a loop over what walks, its target any: the turn begins ahead of the target's store -/
theorem for_led {σ : Type} {target : Expr} {I : Addr} {fp : List Addr} {n : Nat} {P : Nat → Value → Prop} {St : Nat → Heap → Prop} {m₀ : Str → Option Value} (Lg : σ → Led) (ps : σ → List (Str × Value)) (stored : List Str) (Inv : Nat → σ → Prop) (c₀ : σ)
    (hE : PassesOwn (model prog w) A env E)
    (W : Walks prog w A I fp [I] n P St) (hfp : ∀ b ∈ fp, b = I ∨ (∃ o, ∀ c, (b, o) ∈ Lg c) ∨ ∃ o, h₀.get? b = some o) (hI₀ : h₀.get? I = none) (hIs : ∀ i h, St i h → ∃ o, h.get? I = some o) (hLf : env.locals ∉ fp)
    (hgo : ∀ i (s' : Shared) v (Q' : Unit → Shared → Prop), St i s'.heap → Q' () s' → wpAny (model prog w) A (letOwnedTupleGo target (.ref I) v) Q' E s')
    (hst : St 0 s.heap) (F : Fr h₀ env.locals s.heap m₀) (N : News h₀ env.locals s.heap (Lg c₀)) (hnI : ∀ p ∈ Lg c₀, p.1 ≠ I) (hk : ∀ p ∈ ps c₀, m₀ p.1 = some p.2) (h0 : Inv 0 c₀)
    (turn : ∀ i v c (u : Str → Option Value) h tk oI, i < n → P i v → Inv i c → (∀ p ∈ Lg c, p.1 ≠ I) → Fr h₀ env.locals h (kstB (fun z => if stored.contains z then u z else m₀ z) (ps c)) → News h₀ env.locals h ((I, oI) :: Lg c) →
      wpAny (model prog w) A (assign target env v) (fun _ s₂ => wpAny (model prog w) A (execs body env) (TurnP h₀ env.locals { s with heap := h, toks := tk } I oI Lg ps stored m₀ (Inv (i + 1)) Q) E s₂) E { s with heap := h, toks := tk })
    (done : ∀ c (u : Str → Option Value) h tk, Inv n c → Fr h₀ env.locals h (kstB (fun z => if stored.contains z then u z else m₀ z) (ps c)) → News h₀ env.locals h (Lg c) → Q .next { s with heap := h, toks := tk }) :
    codeAny (model prog w) A (.forLoop target (.ref I) body [] env) (fun r s' => match r with | .ok f => Q f s' | .error e => cameBackBy (model prog w) A env E e s') s :=
  Cforled.allq prog w A E s env h₀ body Q target I fp n P St m₀ stored σ Lg ps Inv c₀ hE W hfp hI₀ hIs hLf hgo hst F N hnI hk h0 turn done
/-- the loop over a list of the ledger -/
theorem forT_list {σ : Type} {target : Expr} {l : Addr} {vs : List Value} {k : Nat} {m₀ : Str → Option Value} (Lg : σ → Led) (ps : σ → List (Str × Value)) (stored : List Str) (Inv : Nat → σ → Prop) (c₀ : σ)
    (hE : PassesOwn (model prog w) A env E) (hh : A.handled = none) (F : Fr h₀ env.locals s.heap m₀) (N : News h₀ env.locals s.heap (Lg c₀)) (hl : ∀ c, (l, listOf vs.toArray k) ∈ Lg c) (hk : ∀ p ∈ ps c₀, m₀ p.1 = some p.2) (h0 : Inv 0 c₀)
    (turn : ∀ i v c (u : Str → Option Value) h tk I oI, i < vs.length → vs[i]? = some v → Inv i c → (∀ p ∈ Lg c, p.1 ≠ I) → (∀ p ∈ Lg c₀, @LT.lt Nat _ p.1 I) → Fr h₀ env.locals h (kstB (fun z => if stored.contains z then u z else m₀ z) (ps c)) → News h₀ env.locals h ((I, oI) :: Lg c) →
      wpAny (model prog w) A (assign target env v) (fun _ s₂ => wpAny (model prog w) A (execs body env) (TurnP h₀ env.locals { s with heap := h, toks := tk } I oI Lg ps stored m₀ (Inv (i + 1)) Q) E s₂) E { s with heap := h, toks := tk })
    (done : ∀ c (u : Str → Option Value) h tk, Inv vs.length c → Fr h₀ env.locals h (kstB (fun z => if stored.contains z then u z else m₀ z) (ps c)) → News h₀ env.locals h (Lg c) → Q .next { s with heap := h, toks := tk }) :
    wpAny (model prog w) A (pyIter (.ref l)) (fun it s₂ => codeAny (model prog w) A (.forLoop target it body [] env) (fun r s' => match r with | .ok f => Q f s' | .error e => cameBackBy (model prog w) A env E e s') s₂) E s := by
  have hL := N _ (hl c₀)
  have hls : s.heap.IsList l vs.toArray := ⟨_, hL.1, rfl, k, rfl⟩
  refine wpAny_pyIter_list hls ?_
  have hlt : l < s.heap.objs.size := Heap.lt_size hL.1
  have W := Walks.list (prog := prog) (w := w) hh s.heap.objs.size l (Nat.ne_of_lt hlt) vs.toArray
  rw [show vs.toArray.size = vs.length from by simp] at W
  refine for_led (s := { s with heap := s.heap.push _ }) Lg ps stored Inv c₀ hE W ?_ (next_is_new F) ?_ ?_ (fun i s' v Q' st hq => letGo_listiter st.1 hq) ⟨⟨_, Heap.get?_push_size _ rfl, rfl, rfl⟩, hls.at fun o e => Heap.get?_push_of_some _ e⟩ (F.push _) (fun p hp => ⟨Heap.get?_push_of_some _ (N p hp).1, (N p hp).2⟩) (fun p hp => Nat.ne_of_lt (Heap.lt_size (N p hp).1)) hk h0 ?_ done
  · intro b hb
    rcases List.mem_cons.mp hb with rfl | hb
    · exact .inl rfl
    · rw [List.mem_singleton.mp hb]; exact .inr (.inl ⟨_, hl⟩)
  · rintro i h ⟨⟨o, ho, _⟩, _⟩; exact ⟨o, ho⟩
  · intro hm
    rcases List.mem_cons.mp hm with e | hm
    · exact absurd F.ns.lt (e ▸ Nat.lt_irrefl _)
    · exact hL.2.1 (List.mem_singleton.mp hm).symm
  · intro i v c u h tk oI hi hP hIv hne F' N'
    exact turn i v c u h tk _ oI hi (by simpa using hP) hIv hne (fun p hp => Heap.lt_size (N p hp).1) F' N'
theorem for_stmt {target iter : Expr} {pos : Pos} (h : wpAny (model prog w) A (eval iter env) (fun xv s₁ => wpAny (model prog w) A (pyIter xv) (fun it s₂ => codeAny (model prog w) A (.forLoop target it body [] env) (fun r s' => match r with | .ok f => Q f s' | .error e => cameBackBy (model prog w) A env E e s') s₂) E s₁) E s)
    (hs : ∀ x, foldedSetIterable iter env x = pure x) : wpAny (model prog w) A (exec (.For target iter body [] pos) env) Q E s := wpAny_For h hs
end
end
-- L4
section
open PyProof.V PySem.Spec
open LCg (NsObj lst Off3 ns_obj)
section
variable {prog : Program} {w : World} {A : Around} {E : Value → Shared → Prop} {s : Shared} {env : Env} {h₀ : Heap}
/-- the end of a turn of a comprehension -/
noncomputable def CEnd {σ : Type} (h₀ : Heap) (L : Addr) (m : Str → Option Value) (s : Shared) (I : Addr) (oI : Obj) (C D : Addr) (ys : σ → List Value) (Lg : σ → Led) (Kp : (Str → Option Value) → Prop) (Fin : σ → Prop) (s₂ : Shared) : Prop :=
  ∃ (c : σ) (h' : Heap) (tk : Nat) (oC : Obj) (mC : Str → Option Value), s₂ = { s with heap := h', toks := tk } ∧ Fr h₀ L h' m ∧ (NsObj oC mC ∧ Kp mC) ∧ News h₀ L h' ((I, oI) :: (C, oC) :: (D, lst (ys c)) :: Lg c) ∧ Off3 I C D (Lg c) ∧ Fin c
theorem CEnd.intro {σ : Type} {L : Addr} {m : Str → Option Value} {s : Shared} {I : Addr} {oI : Obj} {C D : Addr} {ys : σ → List Value} {Lg : σ → Led} {Kp : (Str → Option Value) → Prop} {Fin : σ → Prop} {h' : Heap} {tk : Nat} {all : Led} {oC : Obj} {mC : Str → Option Value} (c : σ)
    (F : Fr h₀ L h' m) (hC : NsObj oC mC) (kp : Kp mC) (N : News h₀ L h' all) (sub : ∀ p ∈ (I, oI) :: (C, oC) :: (D, lst (ys c)) :: Lg c, p ∈ all) (off : Off3 I C D (Lg c)) (fin : Fin c) :
    CEnd h₀ L m s I oI C D ys Lg Kp Fin { s with heap := h', toks := tk } := ⟨c, h', tk, oC, mC, rfl, F, ⟨hC, kp⟩, fun p hp => N p (sub p hp), off, fin⟩
theorem CEnd.mono {σ : Type} {L : Addr} {m : Str → Option Value} {s s' : Shared} {I : Addr} {oI : Obj} {C D : Addr} {ys : σ → List Value} {Lg : σ → Led} {Kp : (Str → Option Value) → Prop} {Fin Fin' : σ → Prop} (h : CEnd h₀ L m s I oI C D ys Lg Kp Fin s') (k : ∀ c, Fin c → Fin' c) :
    CEnd h₀ L m s I oI C D ys Lg Kp Fin' s' := by
  obtain ⟨c, h', tk, oC, mC, e, F, hC, N, off, f⟩ := h
  exact ⟨c, h', tk, oC, mC, e, F, hC, N, off, k c f⟩
/-- the store of a comprehension's target: what the turn finds -/
noncomputable def AsgAt (prog : Program) (w : World) (A : Around) (cenv : Env) (target : Expr) (C : Addr) (Bd : Value → (Str → Option Value) → Prop) (Kp : (Str → Option Value) → Prop) (v : Value) (s₁ : Shared) : Prop :=
  ∀ (Q' : Unit → Shared → Prop) (E : Value → Shared → Prop) (mC : Str → Option Value), s₁.heap.Ns C mC → Kp mC →
    (∀ h' tk mC', h'.Ns C mC' → Bd v mC' → Kp mC' → (∀ b o, b ≠ C → s₁.heap.get? b = some o → h'.get? b = some o) → Q' () { s₁ with heap := h', toks := tk }) →
    wpAny (model prog w) A (assign target cenv v) Q' E s₁
end
namespace Ccompcore
noncomputable def Pq (prog : Program) (w : World) (A : Around) (E : Value → Shared → Prop) (s : Shared) (h₀ : Heap) (c0 : Code) (cenv : Env) (target : Expr) (L : Addr) (I : Addr) (C : Addr) (D : Addr) (m : Str → Option Value) (fp : List Addr) (n : Nat) (P : Nat → Value → Prop) (St : Nat → Heap → Prop) (Bd : Value → (Str → Option Value) → Prop) (Kp : (Str → Option Value) → Prop) (Body : Shared → (Shared → Prop) → Prop) (oC : Obj) (mC : Str → Option Value) : Prop := ∀ (σ : Type) (R : Result → Shared → Prop) (ys : σ → List Value) (Lg : σ → Led) (Inv : Nat → σ → Prop) (c₀ : σ) (rule : ∀ (J : Nat → Shared → Prop), (∀ k s', J k s' → wpAny (model prog w) A (pyNext (.ref I)) (fun r s₁ => match r with
        | none => R (.ok .next) s₁
        | some v => wpAny (model prog w) A (letOwnedTupleGo target (.ref I) v) (fun _ s₂ => wpAny (model prog w) A (assign target cenv v) (fun _ s₃ => Body s₃ (fun s' => ∃ k', k' < k ∧ J k' s')) E s₂) E s₁) E s') → ∀ k s₀, J k s₀ → codeAny (model prog w) A c0 R s₀) (mono : ∀ s₁ (X Y : Shared → Prop), (∀ s', X s' → Y s') → Body s₁ X → Body s₁ Y) (W : Walks prog w A I fp [I] n P St) (hfp : ∀ b ∈ fp, b = I ∨ (∃ o, ∀ c, (b, o) ∈ Lg c) ∨ ∃ o, h₀.get? b = some o) (hI₀ : h₀.get? I = none) (hIs : ∀ i h, St i h → ∃ o, h.get? I = some o) (hLI : L ≠ I) (hgo : ∀ i (s' : Shared) v (Q' : Unit → Shared → Prop), St i s'.heap → Q' () s' → wpAny (model prog w) A (letOwnedTupleGo target (.ref I) v) Q' E s') (hasg : ∀ i v c (s₁ : Shared), P i v → News h₀ L s₁.heap (Lg c) → AsgAt prog w A cenv target C Bd Kp v s₁) (hst : St 0 s.heap) (F : Fr h₀ L s.heap m) (hC : NsObj oC mC) (hKp : Kp mC) (N : News h₀ L s.heap ((C, oC) :: (D, lst (ys c₀)) :: Lg c₀)) (off : Off3 I C D (Lg c₀)) (hne : (@Ne Nat I C) ∧ (@Ne Nat I D) ∧ (@Ne Nat C D)) (h0 : Inv 0 c₀) (turn : ∀ i v c h tk oI oC mC, i < n → P i v → Inv i c → NsObj oC mC → Kp mC → Bd v mC → Fr h₀ L h m → News h₀ L h ((I, oI) :: (C, oC) :: (D, lst (ys c)) :: Lg c) → Off3 I C D (Lg c) →
      Body { s with heap := h, toks := tk } (CEnd h₀ L m { s with heap := h, toks := tk } I oI C D ys Lg Kp (Inv (i + 1)))) (done : ∀ c h tk oC mC, Inv n c → NsObj oC mC → Kp mC → Fr h₀ L h m → News h₀ L h ((C, oC) :: (D, lst (ys c)) :: Lg c) → Off3 I C D (Lg c) → R (.ok .next) { s with heap := h, toks := tk }),
    codeAny (model prog w) A c0 R s
noncomputable abbrev Tq : Type := (((((Program × World) × Around) × (((Value → Shared → Prop) × Shared) × Heap)) × (((Code × Env) × Expr) × ((Addr × Addr) × Addr))) × ((((Addr × (Str → Option Value)) × (List Addr)) × ((Nat × (Nat → Value → Prop)) × (Nat → Heap → Prop))) × ((((Value → (Str → Option Value) → Prop) × ((Str → Option Value) → Prop)) × (Shared → (Shared → Prop) → Prop)) × (Obj × (Str → Option Value)))))
theorem exq : ∃ t : Tq, Pq t.1.1.1.1.1 t.1.1.1.1.2 t.1.1.1.2 t.1.1.2.1.1 t.1.1.2.1.2 t.1.1.2.2 t.1.2.1.1.1 t.1.2.1.1.2 t.1.2.1.2 t.1.2.2.1.1 t.1.2.2.1.2 t.1.2.2.2 t.2.1.1.1.1 t.2.1.1.1.2 t.2.1.1.2 t.2.1.2.1.1 t.2.1.2.1.2 t.2.1.2.2 t.2.2.1.1.1 t.2.2.1.1.2 t.2.2.1.2 t.2.2.2.1 t.2.2.2.2 → ∀ t : Tq, Pq t.1.1.1.1.1 t.1.1.1.1.2 t.1.1.1.2 t.1.1.2.1.1 t.1.1.2.1.2 t.1.1.2.2 t.1.2.1.1.1 t.1.2.1.1.2 t.1.2.1.2 t.1.2.2.1.1 t.1.2.2.1.2 t.1.2.2.2 t.2.1.1.1.1 t.2.1.1.1.2 t.2.1.1.2 t.2.1.2.1.1 t.2.1.2.1.2 t.2.1.2.2 t.2.2.1.1.1 t.2.2.1.1.2 t.2.2.1.2 t.2.2.2.1 t.2.2.2.2 := dk (α := Tq) ((((((default, aWorld 0), ({} : Around)), (((fun _ _ => True), ({} : Shared)), default)), (((default, default), default), ((default, default), default))), ((((default, (fun _ => default)), default), ((default, (fun _ _ => True)), (fun _ _ => True))), ((((fun _ _ => True), (fun _ => True)), (fun _ _ => True)), (default, (fun _ => default)))))) _
noncomputable def cq : Tq := Classical.choose exq
@[irreducible] noncomputable def prog : Program := cq.1.1.1.1.1
@[irreducible] noncomputable def w : World := cq.1.1.1.1.2
@[irreducible] noncomputable def A : Around := cq.1.1.1.2
@[irreducible] noncomputable def E : Value → Shared → Prop := cq.1.1.2.1.1
@[irreducible] noncomputable def s : Shared := cq.1.1.2.1.2
@[irreducible] noncomputable def h₀ : Heap := cq.1.1.2.2
@[irreducible] noncomputable def c0 : Code := cq.1.2.1.1.1
@[irreducible] noncomputable def cenv : Env := cq.1.2.1.1.2
@[irreducible] noncomputable def target : Expr := cq.1.2.1.2
@[irreducible] noncomputable def L : Addr := cq.1.2.2.1.1
@[irreducible] noncomputable def I : Addr := cq.1.2.2.1.2
@[irreducible] noncomputable def C : Addr := cq.1.2.2.2
@[irreducible] noncomputable def D : Addr := cq.2.1.1.1.1
@[irreducible] noncomputable def m : Str → Option Value := cq.2.1.1.1.2
@[irreducible] noncomputable def fp : List Addr := cq.2.1.1.2
@[irreducible] noncomputable def n : Nat := cq.2.1.2.1.1
@[irreducible] noncomputable def P : Nat → Value → Prop := cq.2.1.2.1.2
@[irreducible] noncomputable def St : Nat → Heap → Prop := cq.2.1.2.2
@[irreducible] noncomputable def Bd : Value → (Str → Option Value) → Prop := cq.2.2.1.1.1
@[irreducible] noncomputable def Kp : (Str → Option Value) → Prop := cq.2.2.1.1.2
@[irreducible] noncomputable def Body : Shared → (Shared → Prop) → Prop := cq.2.2.1.2
@[irreducible] noncomputable def oC : Obj := cq.2.2.2.1
@[irreducible] noncomputable def mC : Str → Option Value := cq.2.2.2.2
theorem coreq : Pq prog w A E s h₀ c0 cenv target L I C D m fp n P St Bd Kp Body oC mC := by
  unfold Pq
  intro σ R ys Lg Inv c₀ rule mono W hfp hI₀ hIs hLI hgo hasg hst F hC hKp N off hne h0 turn done
  have hIf : I ∈ fp := W.sub I (by simp)
  have hCf : C ∈ fp → (∀ c, Off3 I C D (Lg c) → False) ∨ ∃ o, h₀.get? C = some o := fun h => by
    rcases hfp C h with e | ⟨o, ho⟩ | ho
    · exact absurd e.symm hne.1
    · exact .inl fun c x => (LCg.Off3.mem x _ (ho c)).2.1 rfl
    · exact .inr ho
  have hC₀ : h₀.get? C = none := (N _ (.head _)).2.2
  have hCL : C ≠ L := (N _ (.head _)).2.1
  have hCf' : C ∉ fp := fun h => by
    rcases hCf h with x | ⟨o, ho⟩
    · exact x c₀ off
    · rw [hC₀] at ho; cases ho
  have old : ∀ b o, h₀.get? b = some o → b ∉ [I] := fun b o e hb => by rw [List.mem_singleton.mp hb, hI₀] at e; cases e
  have offI : ∀ {c oC}, Off3 I C D (Lg c) → ∀ p ∈ (C, oC) :: (D, lst (ys c)) :: Lg c, p.1 ≠ I := by
    intro c oC x p hp
    rcases List.mem_cons.mp hp with rfl | hp
    · exact Ne.symm hne.1
    · rcases List.mem_cons.mp hp with rfl | hp
      · exact Ne.symm hne.2.1
      · exact (LCg.Off3.mem x p hp).1
  refine rule (fun k s' => ∃ h' tk c i oC mC, s' = { s with heap := h', toks := tk } ∧ St i h' ∧ Fr h₀ L h' m ∧ (NsObj oC mC ∧ Kp mC) ∧ News h₀ L h' ((C, oC) :: (D, lst (ys c)) :: Lg c) ∧ Off3 I C D (Lg c) ∧ Inv i c ∧ i ≤ n ∧ k = n + 1 - i) ?_ (n + 1) s
    ⟨s.heap, s.toks, c₀, 0, oC, mC, rfl, hst, F, ⟨hC, hKp⟩, N, off, h0, Nat.zero_le _, rfl⟩
  rintro k s' ⟨h', tk, c, i, oC, mC, rfl, hst', F', ⟨hC', hKp'⟩, N', off', hJ, hi, rfl⟩
  have next : ∀ h₁ : Heap, (∀ b o, b ∉ [I] → h'.get? b = some o → h₁.get? b = some o) → Fr h₀ L h₁ m ∧ News h₀ L h₁ ((C, oC) :: (D, lst (ys c)) :: Lg c) := fun h₁ hk₁ =>
    ⟨⟨F'.ns.at' fun o e => hk₁ _ o (by simpa using hLI) e, fun b o e => hk₁ b o (old b o e) (F'.keep b o e), F'.above⟩, fun p hp => ⟨hk₁ _ _ (by simpa using offI off' p hp) (N' p hp).1, (N' p hp).2⟩⟩
  by_cases hlt : i < n
  · refine W.item i _ _ _ hlt hst' fun v h₁ tk₁ hP hst₁ hk₁ => ?_
    obtain ⟨F₁, N₁⟩ := next h₁ hk₁
    refine hgo (i + 1) _ v _ hst₁ ?_
    have hn₁ : h₁.Ns C mC := hC'.ns (N₁ _ (.head _)).1
    refine hasg i v c _ hP (fun p hp => N₁ p (.tail _ (.tail _ hp))) _ _ _ hn₁ hKp' fun h₂ tk₂ mC₂ hn₂ hB hK₂ hk₂ => ?_
    obtain ⟨oC₂, hoC₂, hC₂⟩ := ns_obj hn₂
    have hst₂ : St (i + 1) h₂ := W.frame _ _ _ hst₁ fun b hb o e => hk₂ b o (fun q => hCf' (q ▸ hb)) e
    obtain ⟨oI, hoI⟩ := hIs _ _ hst₂
    have F₂ : Fr h₀ L h₂ m := ⟨F₁.ns.at' fun o e => hk₂ _ o (Ne.symm hCL) e, fun b o e => hk₂ b o (fun q => by rw [q, hC₀] at e; cases e) (F₁.keep b o e), F₁.above⟩
    have N₂ : News h₀ L h₂ ((I, oI) :: (C, oC₂) :: (D, lst (ys c)) :: Lg c) := by
      intro p hp
      rcases List.mem_cons.mp hp with rfl | hp
      · exact ⟨hoI, Ne.symm hLI, hI₀⟩
      · rcases List.mem_cons.mp hp with rfl | hp
        · exact ⟨hoC₂, hCL, hC₀⟩
        · refine ⟨hk₂ _ _ ?_ (N₁ p (.tail _ hp)).1, (N₁ p (.tail _ hp)).2⟩
          rcases List.mem_cons.mp hp with rfl | hp
          · exact Ne.symm hne.2.2
          · exact (LCg.Off3.mem off' p hp).2.1
    refine mono _ _ _ (fun s₃ h₃ => ?_) (turn i v c h₂ tk₂ oI oC₂ mC₂ hlt hP hJ hC₂ hK₂ hB F₂ N₂ off')
    obtain ⟨c', h₃, tk₃, oC₃, mC₃, rfl, F₃, hC₃, N₃, off₃, hJ₃⟩ := h₃
    refine ⟨n + 1 - (i + 1), by omega, h₃, tk₃, c', i + 1, oC₃, mC₃, rfl, ?_, F₃, hC₃, fun p hp => N₃ p (.tail _ hp), off₃, hJ₃, hlt, rfl⟩
    refine W.frame _ _ _ hst₂ fun b hb o e => ?_
    rcases hfp b hb with rfl | ⟨o', ho'⟩ | ⟨o', ho'⟩
    · rw [hoI] at e; cases e; exact (N₃ _ (.head _)).1
    · have a := (N₂ _ (.tail _ (.tail _ (.tail _ (ho' c))))).1
      rw [show (b, o').1 = b from rfl, e] at a; cases a
      exact (N₃ _ (.tail _ (.tail _ (.tail _ (ho' c'))))).1
    · have a := F₂.keep b o' ho'
      rw [e] at a; cases a
      exact F₃.keep b o ho'
  · obtain rfl : i = n := Nat.le_antisymm hi (Nat.not_lt.mp hlt)
    refine W.done _ _ _ hst' fun h₁ tk₁ hk₁ => ?_
    obtain ⟨F₁, N₁⟩ := next h₁ hk₁
    exact done c h₁ tk₁ oC mC hJ hC' hKp' F₁ N₁ off'
theorem allq (prog : Program) (w : World) (A : Around) (E : Value → Shared → Prop) (s : Shared) (h₀ : Heap) (c0 : Code) (cenv : Env) (target : Expr) (L : Addr) (I : Addr) (C : Addr) (D : Addr) (m : Str → Option Value) (fp : List Addr) (n : Nat) (P : Nat → Value → Prop) (St : Nat → Heap → Prop) (Bd : Value → (Str → Option Value) → Prop) (Kp : (Str → Option Value) → Prop) (Body : Shared → (Shared → Prop) → Prop) (oC : Obj) (mC : Str → Option Value) : Pq prog w A E s h₀ c0 cenv target L I C D m fp n P St Bd Kp Body oC mC := by
  with_unfolding_all exact Classical.choose_spec exq coreq (((((prog, w), A), ((E, s), h₀)), (((c0, cenv), target), ((L, I), C))), ((((D, m), fp), ((n, P), St)), (((Bd, Kp), Body), (oC, mC))))
end Ccompcore
section
variable {prog : Program} {w : World} {A : Around} {E : Value → Shared → Prop} {s : Shared} {env : Env} {h₀ : Heap}
theorem comp_core {σ : Type} {c0 : Code} {R : Result → Shared → Prop} {cenv : Env} {target : Expr} {L I C D : Addr} {m : Str → Option Value} {fp : List Addr} {n : Nat} {P : Nat → Value → Prop} {St : Nat → Heap → Prop}
    (ys : σ → List Value) (Lg : σ → Led) (Inv : Nat → σ → Prop) (Bd : Value → (Str → Option Value) → Prop) (Kp : (Str → Option Value) → Prop) (c₀ : σ) (Body : Shared → (Shared → Prop) → Prop)
    (rule : ∀ (J : Nat → Shared → Prop), (∀ k s', J k s' → wpAny (model prog w) A (pyNext (.ref I)) (fun r s₁ => match r with
        | none => R (.ok .next) s₁
        | some v => wpAny (model prog w) A (letOwnedTupleGo target (.ref I) v) (fun _ s₂ => wpAny (model prog w) A (assign target cenv v) (fun _ s₃ => Body s₃ (fun s' => ∃ k', k' < k ∧ J k' s')) E s₂) E s₁) E s') → ∀ k s₀, J k s₀ → codeAny (model prog w) A c0 R s₀)
    (mono : ∀ s₁ (X Y : Shared → Prop), (∀ s', X s' → Y s') → Body s₁ X → Body s₁ Y)
    (W : Walks prog w A I fp [I] n P St) (hfp : ∀ b ∈ fp, b = I ∨ (∃ o, ∀ c, (b, o) ∈ Lg c) ∨ ∃ o, h₀.get? b = some o) (hI₀ : h₀.get? I = none) (hIs : ∀ i h, St i h → ∃ o, h.get? I = some o) (hLI : L ≠ I)
    (hgo : ∀ i (s' : Shared) v (Q' : Unit → Shared → Prop), St i s'.heap → Q' () s' → wpAny (model prog w) A (letOwnedTupleGo target (.ref I) v) Q' E s')
    (hasg : ∀ i v c (s₁ : Shared), P i v → News h₀ L s₁.heap (Lg c) → AsgAt prog w A cenv target C Bd Kp v s₁)
    {oC : Obj} {mC : Str → Option Value} (hst : St 0 s.heap) (F : Fr h₀ L s.heap m) (hC : NsObj oC mC) (hKp : Kp mC) (N : News h₀ L s.heap ((C, oC) :: (D, lst (ys c₀)) :: Lg c₀)) (off : Off3 I C D (Lg c₀)) (hne : (@Ne Nat I C) ∧ (@Ne Nat I D) ∧ (@Ne Nat C D)) (h0 : Inv 0 c₀)
    (turn : ∀ i v c h tk oI oC mC, i < n → P i v → Inv i c → NsObj oC mC → Kp mC → Bd v mC → Fr h₀ L h m → News h₀ L h ((I, oI) :: (C, oC) :: (D, lst (ys c)) :: Lg c) → Off3 I C D (Lg c) →
      Body { s with heap := h, toks := tk } (CEnd h₀ L m { s with heap := h, toks := tk } I oI C D ys Lg Kp (Inv (i + 1))))
    (done : ∀ c h tk oC mC, Inv n c → NsObj oC mC → Kp mC → Fr h₀ L h m → News h₀ L h ((C, oC) :: (D, lst (ys c)) :: Lg c) → Off3 I C D (Lg c) → R (.ok .next) { s with heap := h, toks := tk }) :
    codeAny (model prog w) A c0 R s :=
  Ccompcore.allq prog w A E s h₀ c0 cenv target L I C D m fp n P St Bd Kp Body oC mC σ R ys Lg Inv c₀ rule mono W hfp hI₀ hIs hLI hgo hasg hst F hC hKp N off hne h0 turn done
/-- the store of one name in the comprehension's own names -/
theorem asg_name {cenv : Env} {x : Str} {px : Pos} {C : Addr} {v : Value} {s₁ : Shared} (hL : cenv.locals = C) (hx : cenv.kindOf x = some .local) (hp : (cenv.scope.kind == .class || (cenv.scope.kind == .module && cenv.locals != cenv.globals)) = false) :
    AsgAt prog w A cenv (.Name x px) C (fun v m => m x = some v) (fun _ => True) v s₁ := by
  subst hL
  intro Q' E mC hn _ h
  refine wpAny_assign_Name (wpAny_storeName_local hx hn (fun h' hn' hs' => ?_) hp)
  exact h h' _ _ hn' (by simp) trivial hs'.extBut
/-- a pair's store -/
theorem asg_pair {cenv : Env} {x x₂ : Str} {px px₂ tp : Pos} {k : Nat} {C t : Addr} {v₁ v₂ : Value} {s₁ : Shared} {x₀ : Str} {v₀ : Value} (hh : A.handled = none) (h01 : x₀ ≠ x) (h02 : x₀ ≠ x₂) (hL : cenv.locals = C) (hx : cenv.kindOf x = some .local) (hx₂ : cenv.kindOf x₂ = some .local) (hxx : x ≠ x₂)
    (hp : (cenv.scope.kind == .class || (cenv.scope.kind == .module && cenv.locals != cenv.globals)) = false) (ht : IsTup s₁.heap t #[v₁, v₂]) :
    AsgAt prog w A cenv (.Tuple [.Name x px, .Name x₂ px₂] k tp) C (fun _ m => m x = some v₁ ∧ m x₂ = some v₂) (fun m => m x₀ = some v₀) (.ref t) s₁ := by
  subst hL
  intro Q' E mC hn hk0 h
  refine assign_Tuple_tuple hh ht rfl rfl fun h₅ he => ?_
  have he' : ∀ b o, s₁.heap.get? b = some o → h₅.get? b = some o := fun b o e => he b o (Nat.ne_of_lt (Heap.lt_size e)) e
  refine assignInOrder_cons (wpAny_assign_Name (wpAny_storeName_local hx (hn.at' fun o e => he' _ o e) (fun h₆ hn₆ hs₆ => ?_) hp))
  refine assignInOrder_cons (wpAny_assign_Name (wpAny_storeName_local hx₂ hn₆ (fun h₃ hn₃ hs₃ => ?_) hp))
  refine assignInOrder_nil ?_
  exact h h₃ _ _ hn₃ (by simp [hxx]) (by simp [h01, h02, hk0]) fun b o hb e => hs₃.extBut b o hb (hs₆.extBut b o hb (he' b o e))
/-- the rest of a turn: tests, item, append -/
noncomputable def Emit (prog : Program) (w : World) (A : Around) (cenv : Env) (elt : Expr) (ifs : List Expr) (acc : Value) (E : Value → Shared → Prop) (s₃ : Shared) (X : Shared → Prop) : Prop :=
  wpAny (model prog w) A (forIn ifs true fun c r => if r = true then do let ok ← isTrue c cenv (eval c cenv); pure (ForInStep.yield ok) else pure (ForInStep.yield r)) (fun ok s₃ =>
    if ok = true then wpAny (model prog w) A (eval elt cenv) (fun x s₄ => wpAny (model prog w) A (call (.builtin "list.append") [acc, x]) (fun _ s₅ => X s₅) E s₄) E s₃ else X s₃) E s₃
theorem Emit.mono {cenv : Env} {elt : Expr} {ifs : List Expr} {acc : Value} {s₃ : Shared} {X Y : Shared → Prop} (k : ∀ s', X s' → Y s') (h : Emit prog w A cenv elt ifs acc E s₃ X) : Emit prog w A cenv elt ifs acc E s₃ Y := by
  refine wpAny_mono h (fun ok s₄ h₄ => ?_) fun _ _ e => e
  by_cases hk : ok = true
  · rw [if_pos hk] at h₄ ⊢
    exact wpAny_mono h₄ (fun x s₅ h₅ => wpAny_mono h₅ (fun _ s₆ h₆ => k _ h₆) fun _ _ e => e) fun _ _ e => e
  · rw [if_neg hk] at h₄ ⊢
    exact k _ h₄
/-- an item's end: the walk of the item stops here -/
noncomputable def CEl {σ : Type} (h₀ : Heap) (L : Addr) (m : Str → Option Value) (s : Shared) (I : Addr) (oI : Obj) (C D : Addr) (zs : List Value) (Lg : σ → Led) (Kp : (Str → Option Value) → Prop) (Fin : Value → σ → Prop) (y : Value) (s₂ : Shared) : Prop :=
  ∃ (c : σ) (h' : Heap) (tk : Nat) (oC : Obj) (mC : Str → Option Value), s₂ = { s with heap := h', toks := tk } ∧ Fr h₀ L h' m ∧ (NsObj oC mC ∧ Kp mC) ∧ News h₀ L h' ((I, oI) :: (C, oC) :: (D, lst zs) :: Lg c) ∧ Off3 I C D (Lg c) ∧ Fin y c
theorem CEl.intro {σ : Type} {L : Addr} {m : Str → Option Value} {s : Shared} {I : Addr} {oI : Obj} {C D : Addr} {zs : List Value} {Lg : σ → Led} {Kp : (Str → Option Value) → Prop} {Fin : Value → σ → Prop} {y : Value} {h' : Heap} {tk : Nat} {all : Led} {oC : Obj} {mC : Str → Option Value} (c : σ)
    (F : Fr h₀ L h' m) (hC : NsObj oC mC) (kp : Kp mC) (N : News h₀ L h' all) (sub : ∀ p ∈ (I, oI) :: (C, oC) :: (D, lst zs) :: Lg c, p ∈ all) (off : Off3 I C D (Lg c)) (fin : Fin y c) :
    CEl h₀ L m s I oI C D zs Lg Kp Fin y { s with heap := h', toks := tk } := ⟨c, h', tk, oC, mC, rfl, F, ⟨hC, kp⟩, fun p hp => N p (sub p hp), off, fin⟩
theorem cel_append {σ : Type} {L : Addr} {m : Str → Option Value} {s : Shared} {I : Addr} {oI : Obj} {C D : Addr} {zs : List Value} {ys : σ → List Value} {Lg : σ → Led} {Kp : (Str → Option Value) → Prop} {Fin : σ → Prop} {y : Value} {s₂ : Shared} (hne : (@Ne Nat I C) ∧ (@Ne Nat I D) ∧ (@Ne Nat C D)) (hz : zs.length ≤ sizeLine)
    (h : CEl h₀ L m s I oI C D zs Lg Kp (fun y c => ys c = zs ++ [y] ∧ Fin c) y s₂) : wpAny (model prog w) A (call (.builtin "list.append") [.ref D, y]) (fun _ s₅ => CEnd h₀ L m s I oI C D ys Lg Kp Fin s₅) E s₂ := by
  obtain ⟨c, h₄, tk₄, oC, mC, rfl, F₄, hC, N₄, off₄, hy, hf⟩ := h
  have zD := N₄ (D, lst zs) (.tail _ (.tail _ (.head _)))
  refine append_at (hsz := by show zs.toArray.size ≤ sizeLine; rw [List.size_toArray]; exact hz) zD.1 fun h₅ hs₅ hD₅ => ?_
  refine ⟨c, h₅, tk₄, oC, mC, rfl, F₄.change hs₅ zD.2.1 zD.2.2, hC, fun p hp => ?_, off₄, hf⟩
  rw [hy] at hp
  rcases List.mem_cons.mp hp with rfl | hp
  · exact ⟨hs₅.extBut _ _ hne.2.1 (N₄ _ (.head _)).1, (N₄ _ (.head _)).2⟩
  · rcases List.mem_cons.mp hp with rfl | hp
    · exact ⟨hs₅.extBut _ _ hne.2.2 (N₄ _ (.tail _ (.head _))).1, (N₄ _ (.tail _ (.head _))).2⟩
    · rcases List.mem_cons.mp hp with rfl | hp
      · exact ⟨hD₅.trans (congrArg some (LCg.lst_snoc zs y)), zD.2⟩
      · have z := N₄ p (.tail _ (.tail _ (.tail _ hp)))
        exact ⟨hs₅.extBut _ _ (LCg.Off3.mem off₄ p hp).2.2 z.1, z.2⟩
/-- a turn without a test -/
theorem emit_nil {σ : Type} {L : Addr} {m : Str → Option Value} {cenv : Env} {elt : Expr} {I : Addr} {oI : Obj} {C D : Addr} {zs : List Value} {ys : σ → List Value} {Lg : σ → Led} {Kp : (Str → Option Value) → Prop} {Fin : σ → Prop} (hne : (@Ne Nat I C) ∧ (@Ne Nat I D) ∧ (@Ne Nat C D)) (hz : zs.length ≤ sizeLine)
    (h : wpAny (model prog w) A (eval elt cenv) (CEl h₀ L m s I oI C D zs Lg Kp (fun y c => ys c = zs ++ [y] ∧ Fin c)) E s) : Emit prog w A cenv elt [] (.ref D) E s (CEnd h₀ L m s I oI C D ys Lg Kp Fin) := by
  refine wpAny_tests_nil ?_
  rw [if_pos rfl]
  exact wpAny_mono h (fun y s₄ h₄ => cel_append hne hz h₄) fun _ _ e => e
/-- a turn with a test -/
theorem emit_one {σ : Type} {L : Addr} {m : Str → Option Value} {cenv : Env} {elt t : Expr} {I : Addr} {oI : Obj} {C D : Addr} {zs : List Value} {ys : σ → List Value} {Lg : σ → Led} {Kp : (Str → Option Value) → Prop} {Fin : σ → Prop} (hne : (@Ne Nat I C) ∧ (@Ne Nat I D) ∧ (@Ne Nat C D)) (hz : zs.length ≤ sizeLine)
    (h : wpAny (model prog w) A (isTrue t cenv (eval t cenv)) (fun ok s₁ => if ok = true then wpAny (model prog w) A (eval elt cenv) (CEl h₀ L m s I oI C D zs Lg Kp (fun y c => ys c = zs ++ [y] ∧ Fin c)) E s₁ else CEnd h₀ L m s I oI C D ys Lg Kp Fin s₁) E s) :
    Emit prog w A cenv elt [t] (.ref D) E s (CEnd h₀ L m s I oI C D ys Lg Kp Fin) := by
  refine wpAny_tests_one (wpAny_mono h (fun ok s₁ h₁ => ?_) fun _ _ e => e)
  by_cases hk : ok = true
  · rw [if_pos hk] at h₁ ⊢
    exact wpAny_mono h₁ (fun y s₄ h₄ => cel_append hne hz h₄) fun _ _ e => e
  · rw [if_neg hk] at h₁ ⊢
    exact h₁
end
end
-- L5
section
open PyProof.V PySem.Spec
open LCg (NsObj lst Off3 Off1 ns_obj)
section
variable {prog : Program} {w : World} {A : Around} {E : Value → Shared → Prop} {R : Result → Shared → Prop} {s : Shared} {env : Env} {h₀ : Heap}
theorem loop1 {elt iter target : Expr} {ifs : List Expr} {scope : Scope} {pos : Pos} {it acc : Value} {cenv : Env} (J : Nat → Shared → Prop)
    (turn : ∀ k s', J k s' → wpAny (model prog w) A (pyNext it) (fun r s₁ => match r with
      | none => R (.ok .next) s₁
      | some v => wpAny (model prog w) A (letOwnedTupleGo target it v) (fun _ s₂ => wpAny (model prog w) A (assign target cenv v) (fun _ s₃ =>
          Emit prog w A cenv elt ifs acc (notedBy (model prog w) A cenv fun e s' => R (.error e) s') s₃ (fun s' => ∃ k', k' < k ∧ J k' s')) (notedBy (model prog w) A cenv fun e s' => R (.error e) s') s₂)
          (notedBy (model prog w) A cenv fun e s' => R (.error e) s') s₁) (notedBy (model prog w) A cenv fun e s' => R (.error e) s') s') (k : Nat) (s₀ : Shared) (h : J k s₀) :
    codeAny (model prog w) A (.compLoop (.ListComp elt [⟨target, iter, ifs, 0⟩] scope pos) 0 it acc cenv) R s₀ := by
  refine codeAny_loop rfl J (fun n s hI => ?_) k h
  show wpAny _ A ((compTurn (.ListComp elt [⟨target, iter, ifs, 0⟩] scope pos) 0 it acc cenv).onRaise (fun x => do noteFrame x cenv; theTreesLotGoes x)) _ _ s
  refine wpAny_noted ?_
  rw [compTurn_list]
  refine wpAny_bind (wpAny_standAt (wpAny_bind (wpAny_mono (turn n s hI) (fun r s₁ h₁ => ?_) fun _ _ h' => h')))
  cases r with
  | none => exact wpAny_pure h₁
  | some v =>
    refine wpAny_bind (wpAny_mono h₁ (fun _ s₂ h₂ => ?_) fun _ _ h' => h')
    refine wpAny_bind (wpAny_mono h₂ (fun _ s₃ h₃ => wpAny_bind (wpAny_mono h₃ (fun ok s₄ h₄ => ?_) fun _ _ h' => h')) fun _ _ h' => h')
    cases ok with
    | false => exact wpAny_pure ⟨rfl, h₄⟩
    | true =>
      exact wpAny_bind (wpAny_bind (wpAny_mono h₄ (fun x s₅ h₅ => wpAny_bind (wpAny_mono h₅ (fun _ s₆ h₆ => wpAny_pure (wpAny_pure ⟨rfl, h₆⟩)) fun _ _ h' => h')) fun _ _ h' => h'))
/-- the outer turn of two clauses: the inner source, the inner loop -/
noncomputable def Outer (prog : Program) (w : World) (A : Around) (cenv : Env) (e i1 : Expr) (acc : Value) (E : Value → Shared → Prop) (s₃ : Shared) (X : Shared → Prop) : Prop :=
  wpAny (model prog w) A (eval i1 cenv) (fun xv s₄ => wpAny (model prog w) A (pyIter xv) (fun it s₅ => codeAny (model prog w) A (.compStart e 1 it acc cenv) (fun r s' => match r with | .ok _ => X s' | .error x => cameBackBy (model prog w) A cenv E x s') s₅) E s₄) E s₃
theorem Outer.mono {cenv : Env} {e i1 : Expr} {acc : Value} {s₃ : Shared} {X Y : Shared → Prop} (k : ∀ s', X s' → Y s') (h : Outer prog w A cenv e i1 acc E s₃ X) : Outer prog w A cenv e i1 acc E s₃ Y :=
  wpAny_mono h (fun _ _ h₁ => wpAny_mono h₁ (fun _ _ h₂ => codeAny_mono h₂ fun r s' hr => by cases r with | ok f => exact k _ hr | error x => exact hr) fun _ _ e => e) fun _ _ e => e
theorem compTurn_two0 (elt t0 i0 t1 i1 : Expr) (ifs1 : List Expr) (scope : Scope) (pos : Pos) (it acc : Value) (env : Env) :
    compTurn (.ListComp elt [⟨t0, i0, [], 0⟩, ⟨t1, i1, ifs1, 0⟩] scope pos) 0 it acc env = (do
      standAt i0.pos
      match ← pyNext it with
      | none => pure (.done .next)
      | some v =>
        letOwnedTupleGo t0 it v
        assign t0 env v
        let mut ok := true
        for c in ([] : List Expr) do
          if ok then ok ← isTrue c env (eval c env)
        if ok then
          let x ← eval i1 env
          standAt i1.pos
          let x ← foldedSetIterable i1 env x
          let _ ← runOwn (.compStart (.ListComp elt [⟨t0, i0, [], 0⟩, ⟨t1, i1, ifs1, 0⟩] scope pos) 1 (← holding [x] (pyIter x)) acc env) env
        again (.compLoop (.ListComp elt [⟨t0, i0, [], 0⟩, ⟨t1, i1, ifs1, 0⟩] scope pos) 0 it acc env)) := by rfl
theorem compTurn_two1 (elt t0 i0 t1 i1 : Expr) (ifs1 : List Expr) (scope : Scope) (pos : Pos) (it acc : Value) (env : Env) :
    compTurn (.ListComp elt [⟨t0, i0, [], 0⟩, ⟨t1, i1, ifs1, 0⟩] scope pos) 1 it acc env = (do
      standAt i1.pos
      match ← pyNext it with
      | none => pure (.done .next)
      | some v =>
        letOwnedTupleGo t1 it v
        assign t1 env v
        let mut ok := true
        for c in ifs1 do
          if ok then ok ← isTrue c env (eval c env)
        if ok then
          (do let _ ← call (.builtin "list.append") [acc, ← eval elt env])
        again (.compLoop (.ListComp elt [⟨t0, i0, [], 0⟩, ⟨t1, i1, ifs1, 0⟩] scope pos) 1 it acc env)) := by rfl
theorem loop2_inner {elt t0 i0 t1 i1 : Expr} {ifs : List Expr} {scope : Scope} {pos : Pos} {it acc : Value} {cenv : Env} (J : Nat → Shared → Prop)
    (turn : ∀ k s', J k s' → wpAny (model prog w) A (pyNext it) (fun r s₁ => match r with
      | none => R (.ok .next) s₁
      | some v => wpAny (model prog w) A (letOwnedTupleGo t1 it v) (fun _ s₂ => wpAny (model prog w) A (assign t1 cenv v) (fun _ s₃ =>
          Emit prog w A cenv elt ifs acc (notedBy (model prog w) A cenv fun e s' => R (.error e) s') s₃ (fun s' => ∃ k', k' < k ∧ J k' s')) (notedBy (model prog w) A cenv fun e s' => R (.error e) s') s₂)
          (notedBy (model prog w) A cenv fun e s' => R (.error e) s') s₁) (notedBy (model prog w) A cenv fun e s' => R (.error e) s') s') (k : Nat) (s₀ : Shared) (h : J k s₀) :
    codeAny (model prog w) A (.compLoop (.ListComp elt [⟨t0, i0, [], 0⟩, ⟨t1, i1, ifs, 0⟩] scope pos) 1 it acc cenv) R s₀ := by
  refine codeAny_loop rfl J (fun n s hI => ?_) k h
  show wpAny _ A ((compTurn (.ListComp elt [⟨t0, i0, [], 0⟩, ⟨t1, i1, ifs, 0⟩] scope pos) 1 it acc cenv).onRaise (fun x => do noteFrame x cenv; theTreesLotGoes x)) _ _ s
  refine wpAny_noted ?_
  rw [compTurn_two1]
  refine wpAny_bind (wpAny_standAt (wpAny_bind (wpAny_mono (turn n s hI) (fun r s₁ h₁ => ?_) fun _ _ h' => h')))
  cases r with
  | none => exact wpAny_pure h₁
  | some v =>
    refine wpAny_bind (wpAny_mono h₁ (fun _ s₂ h₂ => ?_) fun _ _ h' => h')
    refine wpAny_bind (wpAny_mono h₂ (fun _ s₃ h₃ => wpAny_bind (wpAny_mono h₃ (fun ok s₄ h₄ => ?_) fun _ _ h' => h')) fun _ _ h' => h')
    cases ok with
    | false => exact wpAny_pure ⟨rfl, h₄⟩
    | true =>
      exact wpAny_bind (wpAny_bind (wpAny_mono h₄ (fun x s₅ h₅ => wpAny_bind (wpAny_mono h₅ (fun _ s₆ h₆ => wpAny_pure (wpAny_pure ⟨rfl, h₆⟩)) fun _ _ h' => h')) fun _ _ h' => h'))
theorem loop2_outer {elt t0 i0 t1 i1 : Expr} {ifs : List Expr} {scope : Scope} {pos : Pos} {it acc : Value} {cenv : Env} (hs : ∀ x, foldedSetIterable i1 cenv x = pure x) (J : Nat → Shared → Prop)
    (turn : ∀ k s', J k s' → wpAny (model prog w) A (pyNext it) (fun r s₁ => match r with
      | none => R (.ok .next) s₁
      | some v => wpAny (model prog w) A (letOwnedTupleGo t0 it v) (fun _ s₂ => wpAny (model prog w) A (assign t0 cenv v) (fun _ s₃ =>
          Outer prog w A cenv (.ListComp elt [⟨t0, i0, [], 0⟩, ⟨t1, i1, ifs, 0⟩] scope pos) i1 acc (notedBy (model prog w) A cenv fun e s' => R (.error e) s') s₃ (fun s' => ∃ k', k' < k ∧ J k' s')) (notedBy (model prog w) A cenv fun e s' => R (.error e) s') s₂)
          (notedBy (model prog w) A cenv fun e s' => R (.error e) s') s₁) (notedBy (model prog w) A cenv fun e s' => R (.error e) s') s') (k : Nat) (s₀ : Shared) (h : J k s₀) :
    codeAny (model prog w) A (.compLoop (.ListComp elt [⟨t0, i0, [], 0⟩, ⟨t1, i1, ifs, 0⟩] scope pos) 0 it acc cenv) R s₀ := by
  refine codeAny_loop rfl J (fun n s hI => ?_) k h
  show wpAny _ A ((compTurn (.ListComp elt [⟨t0, i0, [], 0⟩, ⟨t1, i1, ifs, 0⟩] scope pos) 0 it acc cenv).onRaise (fun x => do noteFrame x cenv; theTreesLotGoes x)) _ _ s
  refine wpAny_noted ?_
  rw [compTurn_two0]
  refine wpAny_bind (wpAny_standAt (wpAny_bind (wpAny_mono (turn n s hI) (fun r s₁ h₁ => ?_) fun _ _ h' => h')))
  cases r with
  | none => exact wpAny_pure h₁
  | some v =>
    refine wpAny_bind (wpAny_mono h₁ (fun _ s₂ h₂ => ?_) fun _ _ h' => h')
    refine wpAny_bind (wpAny_mono h₂ (fun _ s₃ h₃ => wpAny_bind (wpAny_tests_nil ?_)) fun _ _ h' => h')
    refine wpAny_bind (wpAny_mono h₃ (fun xv s₄ h₄ => ?_) fun _ _ h' => h')
    refine wpAny_bind (wpAny_standAt (wpAny_bind (wpAny_of_eq (hs xv) (wpAny_bind (wpAny_holding (wpAny_mono h₄ (fun it' s₅ h₅ => ?_) fun _ _ h' => h'))))))
    exact wpAny_bind (wpAny_runOwn (codeAny_mono h₅ fun r s' hr => by
      cases r with
      | ok f => exact wpAny_pure ⟨rfl, hr⟩
      | error x => exact hr))
theorem compStart1 {elt t0 i0 t1 i1 : Expr} {ifs : List Expr} {scope : Scope} {pos : Pos} {it acc : Value} {cenv : Env}
    (h0 : codeAny (model prog w) A (.compLoop (.ListComp elt [⟨t0, i0, [], 0⟩, ⟨t1, i1, ifs, 0⟩] scope pos) 1 it acc cenv) R s)
    (h : wpAny (model prog w) A (pyIter it) (fun it' s' => codeAny (model prog w) A (.compLoop (.ListComp elt [⟨t0, i0, [], 0⟩, ⟨t1, i1, ifs, 0⟩] scope pos) 1 it' acc cenv) R s')
      (notedBy (model prog w) A cenv fun x s' => R (.error x) s') s) :
    codeAny (model prog w) A (.compStart (.ListComp elt [⟨t0, i0, [], 0⟩, ⟨t1, i1, ifs, 0⟩] scope pos) 1 it acc cenv) R s := by
  refine codeAny_of_tree ?_
  show wpAny _ _ ((compStart (.ListComp elt [⟨t0, i0, [], 0⟩, ⟨t1, i1, ifs, 0⟩] scope pos) 1 it acc cenv).onRaise (fun x => do noteFrame x cenv; standAt theWindowsPlace)) _ _ s
  refine wpAny_notedAt ?_
  unfold compStart
  show wpAny _ _ (ask >>= _) _ _ s
  refine wpAny_bind (wpAny_askSetting (wpAny_ite ?_))
  split
  · first
      | exact wpAny_bind (wpAny_pure (wpAny_pure (And.intro rfl h0)))
      | exact wpAny_pure (And.intro rfl h0)
  · first
      | exact wpAny_bind (wpAny_rule (wpAny_bind (wpAny_standAt (wpAny_bind (wpAny_mono h (fun it' s' h' => wpAny_pure (And.intro rfl h')) fun _ _ x => x)))))
      | (refine wpAny_bind (wpAny_rule ?_); show wpAny _ _ (standAt i1.pos >>= _) _ _ s; exact wpAny_bind (wpAny_standAt (wpAny_bind (wpAny_mono h (fun it' s' h' => wpAny_pure (And.intro rfl h')) fun _ _ x => x))))
end
end
-- L6
section
open PyProof.V PySem.Spec
open LCg (NsObj lst Off3 Off1 ns_obj)
section
variable {prog : Program} {w : World} {A : Around} {E : Value → Shared → Prop} {s : Shared} {env : Env} {h₀ : Heap}
/-- what a comprehension's source leads to: the walk stops here -/
noncomputable def LcAt (prog : Program) (w : World) (A : Around) (E : Value → Shared → Prop) (env : Env) (e : Expr) (scope : Scope) (cl : List (Str × Addr)) (use : Option (Value → Sem Unit)) (Q : Value → Shared → Prop) (xv : Value) (s₁ : Shared) : Prop :=
  wpAny (model prog w) A (pyIter xv) (fun it s₂ => wpAny (model prog w) A (newList []) (fun acc s₃ => wpAny (model prog w) A (newFunctionEnv scope env.globals cl [] env.qual none .none (some env)) (fun cenv s₄ =>
    codeAny (model prog w) A (.compStart e 0 it acc { cenv with scope := relabel scope env }) (compPost (model prog w) A E use Q acc cenv.locals) s₄) E s₃) E s₂) E s₁
theorem lc_eval {elt : Expr} {g : Comprehension} {gs : List Comprehension} {scope : Scope} {pos : Pos} {cl : List (Str × Addr)} {Q : Value → Shared → Prop} (hg : g.is_async = 0)
    (hs : ∀ x, foldedSetIterable g.iter env x = pure x) (hclos : closureFor scope env = pure cl) (hkind : scope.kind = .function) (hnames : ∀ x ∈ scope.names, x.2 = .local → scope.names.lookup x.1 = some .local)
    (h : wpAny (model prog w) A (eval g.iter env) (LcAt prog w A E env (.ListComp elt (g :: gs) scope pos) scope cl none Q) E s) :
    wpAny (model prog w) A (eval (.ListComp elt (g :: gs) scope pos) env) Q E s := by
  obtain ⟨t, i, f, a⟩ := g
  replace hg : a = 0 := hg
  subst hg
  show wpAny (model prog w) A (comprehension _ scope env _ (newList []) false (eval i env)) Q E s
  exact wpAny_comprehension_free (use := none) rfl hs hclos hkind hnames h
theorem lc_assign {elt : Expr} {g : Comprehension} {gs : List Comprehension} {scope : Scope} {pos py spos : Pos} {y : Str} {cl : List (Str × Addr)} {Q : Flow → Shared → Prop} (hg : g.is_async = 0)
    (hsw : swapsWith (.ListComp elt (g :: gs) scope pos) (some (.Name y py)) spos.line env = pure true)
    (hs : ∀ x, foldedSetIterable g.iter env x = pure x) (hclos : closureFor scope env = pure cl) (hkind : scope.kind = .function) (hnames : ∀ x ∈ scope.names, x.2 = .local → scope.names.lookup x.1 = some .local)
    (h : wpAny (model prog w) A (eval g.iter env) (LcAt prog w A E env (.ListComp elt (g :: gs) scope pos) scope cl (some (assign (.Name y py) env)) (fun _ s' => Q .next s')) E s) :
    wpAny (model prog w) A (exec (.Assign [.Name y py] (.ListComp elt (g :: gs) scope pos) spos) env) Q E s := by
  obtain ⟨t, i, f, a⟩ := g
  replace hg : a = 0 := hg
  subst hg
  rw [exec_Assign_Name_used _ _ _ _ hsw]
  refine wpAny_bind (wpAny_standAt (wpAny_bind ?_))
  show wpAny _ A (do let _ ← comprehension (.ListComp elt (⟨t, i, f, 0⟩ :: gs) scope pos) scope env _ (newList []) false (eval i env) (some (assign (.Name y py) env))) _ _ s
  exact wpAny_bind (wpAny_mono (wpAny_comprehension_free (use := some (assign (.Name y py) env)) (Q := fun _ s' => Q .next s') rfl hs hclos hkind hnames h) (fun _ s' hq => wpAny_pure (wpAny_pure hq)) fun _ _ e => e)
/-- the facts at a comprehension's end -/
noncomputable def LcRR {σ : Type} (h₀ : Heap) (L : Addr) (m : Str → Option Value) (s : Shared) (ys : σ → List Value) (Lg : σ → Led) (Fin : σ → Prop) (RR : Value → Addr → Result → Shared → Prop) : Prop :=
  ∀ D C h tk c mC, Fin c → h.Ns C mC → Fr h₀ L h m → News h₀ L h ((D, lst (ys c)) :: Lg c) → Off1 D (Lg c) → h₀.get? C = none → C ≠ L → D ≠ C → (∀ p ∈ Lg c, p.1 ≠ C) → RR (.ref D) C (.ok .next) { s with heap := h, toks := tk }
theorem rr_eval {σ : Type} {L : Addr} {m : Str → Option Value} {ys : σ → List Value} {Lg : σ → Led} {Fin : σ → Prop} {Q : Value → Shared → Prop}
    (h : ∀ D c h tk, Fin c → Fr h₀ L h m → News h₀ L h ((D, lst (ys c)) :: Lg c) → Off1 D (Lg c) → Q (.ref D) { s with heap := h, toks := tk }) :
    LcRR h₀ L m s ys Lg Fin (fun acc C => compPost (model prog w) A E none Q acc C) := by
  intro D C H tk c mC hf hn F N o1 hC₀ hCL hDC offC
  refine ⟨mC, hn, fun h'' hs'' => h D c h'' tk hf (F.change hs'' hCL hC₀) (fun p hp => ?_) o1⟩
  refine ⟨hs''.extBut _ _ ?_ (N p hp).1, (N p hp).2⟩
  rcases List.mem_cons.mp hp with rfl | hp
  · exact hDC
  · exact offC p hp
theorem rr_assign {σ : Type} {L : Addr} {m : Str → Option Value} {ys : σ → List Value} {Lg : σ → Led} {Fin : σ → Prop} {Q : Value → Shared → Prop} {y : Str} {py : Pos} (hLe : env.locals = L)
    (hy : env.kindOf y = some .local) (hp : (env.scope.kind == .class || (env.scope.kind == .module && env.locals != env.globals)) = false)
    (h : ∀ D c h tk, Fin c → Fr h₀ L h (fun z => if z = y then some (.ref D) else m z) → News h₀ L h ((D, lst (ys c)) :: Lg c) → Off1 D (Lg c) → Q .none { s with heap := h, toks := tk }) :
    LcRR h₀ L m s ys Lg Fin (fun acc C => compPost (model prog w) A E (some (assign (.Name y py) env)) Q acc C) := by
  subst hLe
  intro D C H tk c mC hf hn F N o1 hC₀ hCL hDC offC
  show wpAny _ A (assign (.Name y py) env (.ref D)) _ _ _
  refine wpAny_assign_Name (wpAny_storeName_local hy F.ns (fun h₂ hn₂ hs₂ => ?_) hp)
  have hL₀ : h₀.get? env.locals = none := Heap.get?_none_of_le F.above
  have F₂ : Fr h₀ env.locals h₂ (fun z => if z = y then some (.ref D) else m z) := ⟨hn₂, fun b o e => hs₂.extBut b o (fun q => by rw [q, hL₀] at e; cases e) (F.keep b o e), F.above⟩
  refine ⟨mC, hn.sameBut hs₂ hCL, fun h'' hs'' => h D c h'' _ hf (F₂.change hs'' hCL hC₀) (fun p hp => ?_) o1⟩
  have z : h₂.get? p.1 = some p.2 := hs₂.extBut _ _ (N p hp).2.1 (N p hp).1
  refine ⟨hs''.extBut _ _ ?_ z, (N p hp).2⟩
  rcases List.mem_cons.mp hp with rfl | hp
  · exact hDC
  · exact offC p hp
theorem lc_block {σ : Type} {elt t0 i0 : Expr} {ifs0 : List Expr} {rest : List Comprehension} {scope : Scope} {cl : List (Str × Addr)} {pos : Pos} {L I : Addr} {m : Str → Option Value} {fp : List Addr} {n : Nat} {P : Nat → Value → Prop} {St : Nat → Heap → Prop} {RR : Value → Addr → Result → Shared → Prop}
    (ys : σ → List Value) (Lg : σ → Led) (Inv : Nat → σ → Prop) (Bd : Value → (Str → Option Value) → Prop) (c₀ : σ) (Body : Env → Value → (Value → Shared → Prop) → Shared → (Shared → Prop) → Prop)
    (rule : ∀ C D (R : Result → Shared → Prop) (J : Nat → Shared → Prop), (∀ k s', J k s' → wpAny (model prog w) A (pyNext (.ref I)) (fun r s₁ => match r with
        | none => R (.ok .next) s₁
        | some v => wpAny (model prog w) A (letOwnedTupleGo t0 (.ref I) v) (fun _ s₂ => wpAny (model prog w) A (assign t0 (compEnvC scope cl C env) v) (fun _ s₃ => Body (compEnvC scope cl C env) (.ref D) (notedBy (model prog w) A (compEnvC scope cl C env) fun e s' => R (.error e) s') s₃ (fun s' => ∃ k', k' < k ∧ J k' s'))
          (notedBy (model prog w) A (compEnvC scope cl C env) fun e s' => R (.error e) s') s₂) (notedBy (model prog w) A (compEnvC scope cl C env) fun e s' => R (.error e) s') s₁) (notedBy (model prog w) A (compEnvC scope cl C env) fun e s' => R (.error e) s') s') →
        ∀ k s₀, J k s₀ → codeAny (model prog w) A (.compLoop (.ListComp elt (⟨t0, i0, ifs0, 0⟩ :: rest) scope pos) 0 (.ref I) (.ref D) (compEnvC scope cl C env)) R s₀)
    (mono : ∀ cenv acc E' s₁ (X Y : Shared → Prop), (∀ s', X s' → Y s') → Body cenv acc E' s₁ X → Body cenv acc E' s₁ Y)
    (W : Walks prog w A I fp [I] n P St) (hfp : ∀ b ∈ fp, b = I ∨ (∃ o, ∀ c, (b, o) ∈ Lg c) ∨ ∃ o, h₀.get? b = some o) (hI₀ : h₀.get? I = none) (hIs : ∀ i h, St i h → ∃ o, h.get? I = some o) (hLI : L ≠ I)
    (hgo : ∀ i (s' : Shared) v (Q' : Unit → Shared → Prop) E', St i s'.heap → Q' () s' → wpAny (model prog w) A (letOwnedTupleGo t0 (.ref I) v) Q' E' s')
    (hasg : ∀ i v c C (s₁ : Shared), P i v → News h₀ L s₁.heap (Lg c) → AsgAt prog w A (compEnvC scope cl C env) t0 C Bd (fun _ => True) v s₁)
    (hcell : ∀ y ∈ scope.names, y.2 ≠ .cell) (hkind : scope.kind = .function) (hlt : I < s.heap.objs.size)
    (hst : St 0 s.heap) (F : Fr h₀ L s.heap m) (N : News h₀ L s.heap (Lg c₀)) (off : ∀ p ∈ Lg c₀, p.1 ≠ I) (hy : ys c₀ = []) (h0 : Inv 0 c₀)
    (turn : ∀ i v c h tk C D oI oC mC E', i < n → P i v → Inv i c → NsObj oC mC → Bd v mC → Fr h₀ L h m → News h₀ L h ((I, oI) :: (C, oC) :: (D, lst (ys c)) :: Lg c) → Off3 I C D (Lg c) → ((@Ne Nat I C) ∧ (@Ne Nat I D) ∧ (@Ne Nat C D)) →
      Body (compEnvC scope cl C env) (.ref D) E' { s with heap := h, toks := tk } (CEnd h₀ L m { s with heap := h, toks := tk } I oI C D ys Lg (fun _ => True) (Inv (i + 1))))
    (hRR : LcRR h₀ L m s ys Lg (Inv n) RR) :
    wpAny (model prog w) A (newList []) (fun acc s₃ => wpAny (model prog w) A (newFunctionEnv scope env.globals cl [] env.qual none .none (some env)) (fun cenv s₄ =>
      codeAny (model prog w) A (.compStart (.ListComp elt (⟨t0, i0, ifs0, 0⟩ :: rest) scope pos) 0 (.ref I) acc { cenv with scope := relabel scope env }) (RR acc cenv.locals) s₄) E s₃) E s := by
  refine wpAny_newObj_type (wpAny_newFunctionEnv hcell (by intro y hy; simp at hy) (fun h₁ hns₁ hsb₁ => ?_) hkind)
  dsimp only at hns₁ hsb₁ ⊢
  generalize hH2 : s.heap.push { cls := .type "list", dict := none, data := .seq ([] : List Value).toArray } = H2 at hns₁ hsb₁ ⊢
  have hC : H2.objs.size = s.heap.objs.size + 1 := by rw [← hH2, Heap.size_push]
  have hDC : s.heap.objs.size ≠ H2.objs.size := by rw [hC]; exact Nat.ne_of_lt (Nat.lt_succ_self _)
  have below : ∀ b, b < s.heap.objs.size → b ≠ H2.objs.size ∧ b ≠ s.heap.objs.size := fun b hb => ⟨by rw [hC]; exact Nat.ne_of_lt (Nat.lt_succ_of_lt hb), Nat.ne_of_lt hb⟩
  have old : ∀ b o, s.heap.get? b = some o → h₁.get? b = some o := fun b o e => hsb₁.extBut b o (below b (Heap.lt_size e)).1 (Heap.get?_push_of_some _ (hH2 ▸ Heap.get?_push_of_some _ e))
  have hacc : h₁.get? s.heap.objs.size = some (lst []) := hsb₁.extBut _ _ hDC (Heap.get?_push_of_some _ (hH2 ▸ Heap.get?_push_size _ rfl))
  have hst₁ : St 0 h₁ := W.frame _ _ _ hst fun b _ o e => old b o e
  have fresh₀ : ∀ a, s.heap.objs.size ≤ a → h₀.get? a = none := fun a ha => by
    cases e : h₀.get? a with
    | none => rfl
    | some o' => exact absurd (Heap.lt_size (F.keep a o' e)) (Nat.not_lt.mpr ha)
  have hD₀ : h₀.get? s.heap.objs.size = none := fresh₀ _ (Nat.le_refl _)
  have hC₀ : h₀.get? H2.objs.size = none := fresh₀ _ (by rw [hC]; exact Nat.le_succ _)
  have hLlt : L < s.heap.objs.size := F.ns.lt
  have hDL : s.heap.objs.size ≠ L := Ne.symm (below L hLlt).2
  have hCL : H2.objs.size ≠ L := Ne.symm (below L hLlt).1
  have hCI : I ≠ H2.objs.size := (below I hlt).1
  have hDI : I ≠ s.heap.objs.size := (below I hlt).2
  obtain ⟨oC, heC, hoC⟩ := ns_obj hns₁
  have off₀ : Off3 I H2.objs.size s.heap.objs.size (Lg c₀) := LCg.Off3.of fun p hp => ⟨off p hp, (below _ (Heap.lt_size (N p hp).1)).1, (below _ (Heap.lt_size (N p hp).1)).2⟩
  have N₁ : News h₀ L h₁ ((H2.objs.size, oC) :: (s.heap.objs.size, lst (ys c₀)) :: Lg c₀) := by
    intro p hp
    rcases List.mem_cons.mp hp with rfl | hp
    · exact ⟨heC, hCL, hC₀⟩
    · rcases List.mem_cons.mp hp with rfl | hp
      · exact ⟨by rw [hy]; exact hacc, hDL, hD₀⟩
      · exact ⟨old _ _ (N p hp).1, (N p hp).2⟩
  have loop : ∀ s₃ : Shared, s₃ = { s with heap := h₁, toks := s.toks + ([] : List (Str × Value)).length } →
      codeAny (model prog w) A (.compLoop (.ListComp elt (⟨t0, i0, ifs0, 0⟩ :: rest) scope pos) 0 (.ref I) (.ref s.heap.objs.size) (compEnvC scope cl H2.objs.size env)) (RR (.ref s.heap.objs.size) H2.objs.size) s₃ := by
    rintro s₃ rfl
    refine comp_core (target := t0) (C := H2.objs.size) (D := s.heap.objs.size) (cenv := compEnvC scope cl H2.objs.size env) ys Lg Inv Bd (fun _ => True) c₀ _ (rule H2.objs.size s.heap.objs.size _) (fun s₁ X Y => mono _ _ _ s₁ X Y) W hfp hI₀ hIs hLI (fun i s' v Q' => hgo i s' v Q' _) (fun i v c s₁ => hasg i v c _ s₁) hst₁ (F.keeps old) hoC trivial N₁ off₀ ⟨hCI, hDI, Ne.symm hDC⟩ h0
      (fun i v c h tk oI oC mC a1 a2 a3 a4 _ a5 a6 a7 a8 => turn i v c h tk _ _ oI oC mC _ a1 a2 a3 a4 a5 a6 a7 a8 ⟨hCI, hDI, Ne.symm hDC⟩) ?_
    intro c h tk oC' mC' hJ hC' _ F' N' off'
    exact hRR _ _ h tk c mC' hJ (hC'.ns (N' _ (.head _)).1) F' (fun p hp => N' p (.tail _ hp)) (LCg.Off3.one off') hC₀ hCL hDC fun p hp => (LCg.Off3.mem off' p hp).2.1
  exact codeAny_compStart_list (loop _ rfl) (W.self 0 _ _ _ hst₁ (loop _ rfl))
end
end
-- L7
section
open PyProof.V PySem.Spec
open LCg (NsObj lst Off3 Off1 ns_obj)
section
variable {prog : Program} {w : World} {A : Around} {E : Value → Shared → Prop} {s : Shared} {env : Env} {h₀ : Heap}
theorem letGo_name {x : Str} {px : Pos} {it v : Value} {s' : Shared} {Q' : Unit → Shared → Prop} (h : Q' () s') : wpAny (model prog w) A (letOwnedTupleGo (.Name x px) it v) Q' E s' := wpAny_pure h
/-- one clause, one name, over a list of the ledger -/
theorem lc1_list {σ : Type} {elt iter : Expr} {ifs : List Expr} {x : Str} {px : Pos} {scope : Scope} {cl : List (Str × Addr)} {pos : Pos} {L l : Addr} {m : Str → Option Value} {vs : List Value} {k : Nat} {use : Option (Value → Sem Unit)} {Q : Value → Shared → Prop}
    (ys : σ → List Value) (Lg : σ → Led) (Inv : Nat → σ → Prop) (c₀ : σ)
    (hx : (relabel scope env).names.lookup x = some .local) (hcell : ∀ y ∈ scope.names, y.2 ≠ .cell) (hkind : scope.kind = .function)
    (hh : A.handled = none) (F : Fr h₀ L s.heap m) (N : News h₀ L s.heap (Lg c₀)) (hl : ∀ c, (l, listOf vs.toArray k) ∈ Lg c) (hy : ys c₀ = []) (h0 : Inv 0 c₀)
    (turn : ∀ i v c h tk I C D oI oC mC E', i < vs.length → vs[i]? = some v → Inv i c → NsObj oC mC → mC x = some v → Fr h₀ L h m → News h₀ L h ((I, oI) :: (C, oC) :: (D, lst (ys c)) :: Lg c) → Off3 I C D (Lg c) → ((@Ne Nat I C) ∧ (@Ne Nat I D) ∧ (@Ne Nat C D)) →
      Emit prog w A (compEnvC scope cl C env) elt ifs (.ref D) E' { s with heap := h, toks := tk } (CEnd h₀ L m { s with heap := h, toks := tk } I oI C D ys Lg (fun _ => True) (Inv (i + 1))))
    (hRR : LcRR h₀ L m s ys Lg (Inv vs.length) (fun acc C => compPost (model prog w) A E use Q acc C)) :
    LcAt prog w A E env (.ListComp elt [⟨.Name x px, iter, ifs, 0⟩] scope pos) scope cl use Q (.ref l) s := by
  have hL := N _ (hl c₀)
  have hls : s.heap.IsList l vs.toArray := ⟨_, hL.1, rfl, k, rfl⟩
  have hlt : l < s.heap.objs.size := Heap.lt_size hL.1
  have W := Walks.list (prog := prog) (w := w) hh s.heap.objs.size l (Nat.ne_of_lt hlt) vs.toArray
  rw [show vs.toArray.size = vs.length from by simp] at W
  refine wpAny_pyIter_list hls ?_
  refine lc_block (s := { s with heap := s.heap.push _ }) ys Lg Inv (fun v m => m x = some v) c₀ (fun cenv acc E' s' X => Emit prog w A cenv elt ifs acc E' s' X) (fun C D R J t k s₀ h => loop1 J t k s₀ h) (fun _ _ _ _ _ _ k h => Emit.mono k h)
    W ?_ (next_is_new F) ?_ (Nat.ne_of_lt F.ns.lt) (fun i s' v Q' E' st hq => letGo_name hq) (fun i v c C s₁ hP hN => asg_name rfl hx (by simp [compEnvC, relabel, hkind])) hcell hkind ?_ ⟨⟨_, Heap.get?_push_size _ rfl, rfl, rfl⟩, hls.at fun o e => Heap.get?_push_of_some _ e⟩
    (F.push _) (fun p hp => ⟨Heap.get?_push_of_some _ (N p hp).1, (N p hp).2⟩) (fun p hp => Nat.ne_of_lt (Heap.lt_size (N p hp).1)) hy h0 ?_ hRR
  · intro b hb
    rcases List.mem_cons.mp hb with rfl | hb
    · exact .inl rfl
    · rw [List.mem_singleton.mp hb]; exact .inr (.inl ⟨_, hl⟩)
  · rintro i h ⟨⟨o, ho, _⟩, _⟩; exact ⟨o, ho⟩
  · show s.heap.objs.size < (s.heap.push _).objs.size
    rw [Heap.size_push]; exact Nat.lt_succ_self _
  · intro i v c h tk C D oI oC mC E' hi hP hJ hC hB F' N' off ne
    exact turn i v c h tk _ C D oI oC mC E' hi (by simpa using hP) hJ hC hB F' N' off ne
/-- one clause, one name, over a range by ones from 0 -/
theorem lc1_range {σ : Type} {elt iter : Expr} {ifs : List Expr} {x : Str} {px : Pos} {scope : Scope} {cl : List (Str × Addr)} {pos : Pos} {L r : Addr} {m : Str → Option Value} {a₀ b₀ : Int} {t₀ u₀ v₀ : Tok} {n : Nat} {use : Option (Value → Sem Unit)} {Q : Value → Shared → Prop}
    (ys : σ → List Value) (Lg : σ → Led) (Inv : Nat → σ → Prop) (c₀ : σ)
    (hx : (relabel scope env).names.lookup x = some .local) (hcell : ∀ y ∈ scope.names, y.2 ≠ .cell) (hkind : scope.kind = .function)
    (hh : A.handled = none) (hr : IsRange s.heap r a₀ b₀ 1 t₀ u₀ v₀) (hsmall : Builtin.Range.small a₀ b₀ 1 = true) (hn : Builtin.Range.rangeSize a₀ b₀ 1 = (n : Int)) (F : Fr h₀ L s.heap m) (N : News h₀ L s.heap (Lg c₀)) (hy : ys c₀ = []) (h0 : Inv 0 c₀)
    (turn : ∀ i t c h tk I C D oI oC mC E', i < n → Inv i c → NsObj oC mC → mC x = some (.int (a₀ + i) t) → Fr h₀ L h m → News h₀ L h ((I, oI) :: (C, oC) :: (D, lst (ys c)) :: Lg c) → Off3 I C D (Lg c) → ((@Ne Nat I C) ∧ (@Ne Nat I D) ∧ (@Ne Nat C D)) →
      Emit prog w A (compEnvC scope cl C env) elt ifs (.ref D) E' { s with heap := h, toks := tk } (CEnd h₀ L m { s with heap := h, toks := tk } I oI C D ys Lg (fun _ => True) (Inv (i + 1))))
    (hRR : LcRR h₀ L m s ys Lg (Inv n) (fun acc C => compPost (model prog w) A E use Q acc C)) :
    LcAt prog w A E env (.ListComp elt [⟨.Name x px, iter, ifs, 0⟩] scope pos) scope cl use Q (.ref r) s := by
  refine wpAny_pyIter_range hr hsmall ?_
  have W := Walks.range (prog := prog) (w := w) hh s.heap.objs.size a₀ 1 n
  refine lc_block (s := { s with heap := s.heap.push _ }) ys Lg Inv (fun v m => m x = some v) c₀ (fun cenv acc E' s' X => Emit prog w A cenv elt ifs acc E' s' X) (fun C D R J t k s₀ h => loop1 J t k s₀ h) (fun _ _ _ _ _ _ k h => Emit.mono k h)
    W (fun b hb => .inl (List.mem_singleton.mp hb)) (next_is_new F) (fun i h hs => ⟨_, hs⟩) (Nat.ne_of_lt F.ns.lt) (fun i s' v Q' E' st hq => letGo_name hq) (fun i v c C s₁ hP hN => asg_name rfl hx (by simp [compEnvC, relabel, hkind])) hcell hkind ?_
    (by show IsRangeIter _ _ _ _ _; rw [hn]; simpa using Heap.get?_push_size _ rfl)
    (F.push _) (fun p hp => ⟨Heap.get?_push_of_some _ (N p hp).1, (N p hp).2⟩) (fun p hp => Nat.ne_of_lt (Heap.lt_size (N p hp).1)) hy h0 ?_ hRR
  · show s.heap.objs.size < (s.heap.push _).objs.size
    rw [Heap.size_push]; exact Nat.lt_succ_self _
  · rintro i v c h tk C D oI oC mC E' hi ⟨t, rfl⟩ hJ hC hB F' N' off ne
    rw [Int.mul_one] at hB
    exact turn i t c h tk _ C D oI oC mC E' hi hJ hC hB F' N' off ne
/-- two clauses, the outer over a list of the ledger -/
theorem lc2_list {σ : Type} {elt i0 t1 i1 : Expr} {ifs : List Expr} {x : Str} {px : Pos} {scope : Scope} {cl : List (Str × Addr)} {pos : Pos} {L l : Addr} {m : Str → Option Value} {vs : List Value} {k : Nat} {use : Option (Value → Sem Unit)} {Q : Value → Shared → Prop}
    (ys : σ → List Value) (Lg : σ → Led) (Inv : Nat → σ → Prop) (c₀ : σ)
    (hs1 : ∀ C x, foldedSetIterable i1 (compEnvC scope cl C env) x = pure x) (hx : (relabel scope env).names.lookup x = some .local) (hcell : ∀ y ∈ scope.names, y.2 ≠ .cell) (hkind : scope.kind = .function)
    (hh : A.handled = none) (F : Fr h₀ L s.heap m) (N : News h₀ L s.heap (Lg c₀)) (hl : ∀ c, (l, listOf vs.toArray k) ∈ Lg c) (hy : ys c₀ = []) (h0 : Inv 0 c₀)
    (turn : ∀ i v c h tk I C D oI oC mC E', i < vs.length → vs[i]? = some v → Inv i c → NsObj oC mC → mC x = some v → Fr h₀ L h m → News h₀ L h ((I, oI) :: (C, oC) :: (D, lst (ys c)) :: Lg c) → Off3 I C D (Lg c) → ((@Ne Nat I C) ∧ (@Ne Nat I D) ∧ (@Ne Nat C D)) →
      Outer prog w A (compEnvC scope cl C env) (.ListComp elt [⟨.Name x px, i0, [], 0⟩, ⟨t1, i1, ifs, 0⟩] scope pos) i1 (.ref D) E' { s with heap := h, toks := tk } (CEnd h₀ L m { s with heap := h, toks := tk } I oI C D ys Lg (fun _ => True) (Inv (i + 1))))
    (hRR : LcRR h₀ L m s ys Lg (Inv vs.length) (fun acc C => compPost (model prog w) A E use Q acc C)) :
    LcAt prog w A E env (.ListComp elt [⟨.Name x px, i0, [], 0⟩, ⟨t1, i1, ifs, 0⟩] scope pos) scope cl use Q (.ref l) s := by
  have hL := N _ (hl c₀)
  have hls : s.heap.IsList l vs.toArray := ⟨_, hL.1, rfl, k, rfl⟩
  have hlt : l < s.heap.objs.size := Heap.lt_size hL.1
  have W := Walks.list (prog := prog) (w := w) hh s.heap.objs.size l (Nat.ne_of_lt hlt) vs.toArray
  rw [show vs.toArray.size = vs.length from by simp] at W
  refine wpAny_pyIter_list hls ?_
  refine lc_block (s := { s with heap := s.heap.push _ }) ys Lg Inv (fun v m => m x = some v) c₀ (fun cenv acc E' s' X => Outer prog w A cenv (.ListComp elt [⟨.Name x px, i0, [], 0⟩, ⟨t1, i1, ifs, 0⟩] scope pos) i1 acc E' s' X) (fun C D R J t k s₀ h => loop2_outer (hs1 C) J t k s₀ h) (fun _ _ _ _ _ _ k h => Outer.mono k h)
    W ?_ (next_is_new F) ?_ (Nat.ne_of_lt F.ns.lt) (fun i s' v Q' E' st hq => letGo_name hq) (fun i v c C s₁ hP hN => asg_name rfl hx (by simp [compEnvC, relabel, hkind])) hcell hkind ?_ ⟨⟨_, Heap.get?_push_size _ rfl, rfl, rfl⟩, hls.at fun o e => Heap.get?_push_of_some _ e⟩
    (F.push _) (fun p hp => ⟨Heap.get?_push_of_some _ (N p hp).1, (N p hp).2⟩) (fun p hp => Nat.ne_of_lt (Heap.lt_size (N p hp).1)) hy h0 ?_ hRR
  · intro b hb
    rcases List.mem_cons.mp hb with rfl | hb
    · exact .inl rfl
    · rw [List.mem_singleton.mp hb]; exact .inr (.inl ⟨_, hl⟩)
  · rintro i h ⟨⟨o, ho, _⟩, _⟩; exact ⟨o, ho⟩
  · show s.heap.objs.size < (s.heap.push _).objs.size
    rw [Heap.size_push]; exact Nat.lt_succ_self _
  · intro i v c h tk C D oI oC mC E' hi hP hJ hC hB F' N' off ne
    exact turn i v c h tk _ C D oI oC mC E' hi (by simpa using hP) hJ hC hB F' N' off ne
/-- the inner loop, over a tuple of pairs of the ledger -/
theorem inner_pairs {elt t0 i0 i1 : Expr} {ifs : List Expr} {x₁ x₂ : Str} {p₁ p₂ tp : Pos} {kk : Nat} {scope : Scope} {pos : Pos} {cenv : Env} {L I C D T : Addr} {m : Str → Option Value} {items : List (Addr × Value × Value)} {Lg₀ : Led} {zs₀ : List Value} {oC : Obj} {mC : Str → Option Value} {oI : Obj} {X : Shared → Prop}
    (Inv : Nat → List Value → Prop) (x₀ : Str) (v₀ : Value) (h01 : x₀ ≠ x₁) (h02 : x₀ ≠ x₂) (hk0 : mC x₀ = some v₀)
    (hL : cenv.locals = C) (h1 : cenv.kindOf x₁ = some .local) (h2 : cenv.kindOf x₂ = some .local) (hxx : x₁ ≠ x₂) (hp : (cenv.scope.kind == .class || (cenv.scope.kind == .module && cenv.locals != cenv.globals)) = false)
    (hh : A.handled = none) (F : Fr h₀ L s.heap m) (hC : NsObj oC mC) (N : News h₀ L s.heap ((I, oI) :: (C, oC) :: (D, lst zs₀) :: Lg₀)) (off : Off3 I C D Lg₀) (ne : (@Ne Nat I C) ∧ (@Ne Nat I D) ∧ (@Ne Nat C D))
    (hT : (T, tupO (items.map fun p => .ref p.1)) ∈ Lg₀) (hit : ∀ p ∈ items, (p.1, tupO [p.2.1, p.2.2]) ∈ Lg₀) (h0 : Inv 0 zs₀)
    (turn : ∀ j p zs h tk I' oI' oC mC E', items[j]? = some p → Inv j zs → NsObj oC mC → mC x₀ = some v₀ → mC x₁ = some p.2.1 → mC x₂ = some p.2.2 → Fr h₀ L h m → News h₀ L h ((I', oI') :: (C, oC) :: (D, lst zs) :: (I, oI) :: Lg₀) → Off3 I' C D ((I, oI) :: Lg₀) → ((@Ne Nat I' C) ∧ (@Ne Nat I' D) ∧ (@Ne Nat C D)) →
      Emit prog w A cenv elt ifs (.ref D) E' { s with heap := h, toks := tk } (CEnd h₀ L m { s with heap := h, toks := tk } I' oI' C D id (fun _ => (I, oI) :: Lg₀) (fun mm => mm x₀ = some v₀) (Inv (j + 1))))
    (done : ∀ zs h tk oC mC, Inv items.length zs → NsObj oC mC → mC x₀ = some v₀ → Fr h₀ L h m → News h₀ L h ((I, oI) :: (C, oC) :: (D, lst zs) :: Lg₀) → X { s with heap := h, toks := tk }) :
    wpAny (model prog w) A (pyIter (.ref T)) (fun it s₅ => codeAny (model prog w) A (.compStart (.ListComp elt [⟨t0, i0, [], 0⟩, ⟨.Tuple [.Name x₁ p₁, .Name x₂ p₂] kk tp, i1, ifs, 0⟩] scope pos) 1 it (.ref D) cenv) (fun r s' => match r with | .ok _ => X s' | .error e => cameBackBy (model prog w) A cenv E e s') s₅) E s := by
  have hTm := N _ (.tail _ (.tail _ (.tail _ hT)))
  have hTt : s.heap.IsTuple T (items.map fun p => Value.ref p.1).toArray := ⟨_, hTm.1, rfl, _, rfl⟩
  have hlt : T < s.heap.objs.size := Heap.lt_size hTm.1
  have W := Walks.tuple (prog := prog) (w := w) hh s.heap.objs.size T (Nat.ne_of_lt hlt) (items.map fun p => Value.ref p.1).toArray
  rw [show (items.map fun p => Value.ref p.1).toArray.size = items.length from by simp] at W
  refine wpAny_pyIter_tuple hTt ?_
  have up : ∀ b o, s.heap.get? b = some o → (s.heap.push { cls := .type "tuple_iterator", data := .fields #[.ref T, .int 0 0] }).get? b = some o := fun b o e => Heap.get?_push_of_some _ e
  have hst : (s.heap.push { cls := .type "tuple_iterator", data := .fields #[.ref T, .int 0 0] }).IsTupleIter s.heap.objs.size T 0 ∧ (s.heap.push { cls := .type "tuple_iterator", data := .fields #[.ref T, .int 0 0] }).IsTuple T (items.map fun p => Value.ref p.1).toArray :=
    ⟨⟨_, Heap.get?_push_size _ rfl, rfl, rfl⟩, hTt.at fun o e => up _ _ e⟩
  have off3 := LCg.Off3.mem off
  have lt : ∀ p ∈ (I, oI) :: (C, oC) :: (D, lst zs₀) :: Lg₀, p.1 ≠ s.heap.objs.size := fun p hp => Nat.ne_of_lt (Heap.lt_size (N p hp).1)
  have loop : codeAny (model prog w) A (.compLoop (.ListComp elt [⟨t0, i0, [], 0⟩, ⟨.Tuple [.Name x₁ p₁, .Name x₂ p₂] kk tp, i1, ifs, 0⟩] scope pos) 1 (.ref s.heap.objs.size) (.ref D) cenv) (fun r s' => match r with | .ok _ => X s' | .error e => cameBackBy (model prog w) A cenv E e s')
      { s with heap := s.heap.push { cls := .type "tuple_iterator", data := .fields #[.ref T, .int 0 0] } } := by
    refine comp_core (E := notedBy (model prog w) A cenv fun e s' => cameBackBy (model prog w) A cenv E e s') (s := { s with heap := s.heap.push _ }) (σ := List Value) (target := .Tuple [.Name x₁ p₁, .Name x₂ p₂] kk tp) (C := C) (D := D) (cenv := cenv) id (fun _ => (I, oI) :: Lg₀) Inv (fun v mm => ∃ p ∈ items, v = .ref p.1 ∧ mm x₁ = some p.2.1 ∧ mm x₂ = some p.2.2) (fun mm => mm x₀ = some v₀) zs₀ (fun s₃ Y => Emit prog w A cenv elt ifs (.ref D) (notedBy (model prog w) A cenv fun e s' => cameBackBy (model prog w) A cenv E e s') s₃ Y)
      (fun J t k s₀ h => loop2_inner J t k s₀ h) (fun s₁ X Y => Emit.mono) W ?_ (next_is_new F) ?_ (Nat.ne_of_lt F.ns.lt) (fun i s' v Q' st hq => letGo_tupleiter st.1 hq) ?_ hst (F.push _) hC hk0 ?_ ?_ ?_ h0 ?_ ?_
    · intro b hb
      rcases List.mem_cons.mp hb with rfl | hb
      · exact .inl rfl
      · rw [List.mem_singleton.mp hb]; exact .inr (.inl ⟨_, fun _ => .tail _ hT⟩)
    · rintro i h ⟨⟨o, ho, _⟩, _⟩; exact ⟨o, ho⟩
    · intro i v c s₁ hP hN
      have hP' : (items.map fun p => Value.ref p.1)[i]? = some v := by simpa using hP
      rw [List.getElem?_map] at hP'
      cases hi : items[i]? with
      | none => rw [hi] at hP'; cases hP'
      | some p =>
        rw [hi] at hP'
        cases hP'
        have hm := List.mem_of_getElem? hi
        have ht : IsTup s₁.heap p.1 #[p.2.1, p.2.2] := ⟨_, (hN _ (.tail _ (hit p hm))).1, rfl, _, rfl⟩
        intro Q' E'' mm hn hkk hq
        exact asg_pair (x₀ := x₀) (v₀ := v₀) hh h01 h02 hL h1 h2 hxx hp ht Q' E'' mm hn hkk fun h' tk mC' hn' hB hK' hk' => hq h' tk mC' hn' ⟨p, hm, rfl, hB⟩ hK' hk'
    · intro p hp
      have hmem : p ∈ (I, oI) :: (C, oC) :: (D, lst zs₀) :: Lg₀ := by
        rcases List.mem_cons.mp hp with rfl | hp
        · exact .tail _ (.head _)
        · rcases List.mem_cons.mp hp with rfl | hp
          · exact .tail _ (.tail _ (.head _))
          · rcases List.mem_cons.mp hp with rfl | hp
            · exact .head _
            · exact .tail _ (.tail _ (.tail _ hp))
      exact ⟨up _ _ (N p hmem).1, (N p hmem).2⟩
    · exact ⟨⟨lt _ (.head _), ne.1, ne.2.1⟩, LCg.Off3.of fun p hp => ⟨lt p (.tail _ (.tail _ (.tail _ hp))), (off3 p hp).2.1, (off3 p hp).2.2⟩⟩
    · exact ⟨Ne.symm (lt _ (.tail _ (.head _))), Ne.symm (lt _ (.tail _ (.tail _ (.head _)))), ne.2.2⟩
    · rintro i v c h tk oI' oC' mC' hi hP hJ hC' hK' ⟨p', _, e', hB⟩ F' N' off'
      have hP' : (items.map fun p => Value.ref p.1)[i]? = some v := by simpa using hP
      rw [List.getElem?_map] at hP'
      cases hi' : items[i]? with
      | none => rw [hi'] at hP'; cases hP'
      | some p =>
        rw [hi'] at hP'
        cases hP'
        have hm := List.mem_of_getElem? hi'
        have ee : p.1 = p'.1 := by injection e'
        have a := (N' _ (.tail _ (.tail _ (.tail _ (.tail _ (hit p hm)))))).1
        have b := (N' _ (.tail _ (.tail _ (.tail _ (.tail _ (hit p' (by assumption))))))).1
        rw [show (p.1, tupO [p.2.1, p.2.2]).1 = p'.1 from ee] at a
        rw [a] at b
        have e2 : tupO [p.2.1, p.2.2] = tupO [p'.2.1, p'.2.2] := Option.some.inj b
        simp only [tupO] at e2
        have e3 : p.2.1 = p'.2.1 ∧ p.2.2 = p'.2.2 := by simpa using e2
        exact turn i p c h tk _ oI' oC' mC' _ hi' hJ hC' hK' (e3.1 ▸ hB.1) (e3.2 ▸ hB.2) F' N' off' ⟨Ne.symm (lt _ (.tail _ (.head _))), Ne.symm (lt _ (.tail _ (.tail _ (.head _)))), ne.2.2⟩
    · intro zs h tk oC' mC' hJ hC' hK' F' N' off'
      refine done zs h tk oC' mC' hJ hC' hK' F' fun p hp => N' p ?_
      rcases List.mem_cons.mp hp with rfl | hp
      · exact .tail _ (.tail _ (.head _))
      · rcases List.mem_cons.mp hp with rfl | hp
        · exact .head _
        · rcases List.mem_cons.mp hp with rfl | hp
          · exact .tail _ (.head _)
          · exact .tail _ (.tail _ (.tail _ hp))
  exact compStart1 loop (W.self 0 _ _ _ hst loop)
/-- the inner loop over two pairs, as the walk lays them -/
theorem inner_two {elt t0 i0 i1 : Expr} {ifs : List Expr} {x₁ x₂ : Str} {p₁ p₂ tp : Pos} {kk : Nat} {scope : Scope} {pos : Pos} {cenv : Env} {L I C D T t₁ t₂ : Addr} {a₁ b₁ a₂ b₂ : Value} {m : Str → Option Value} {Lg₁ : Led} {zs₀ : List Value} {oC : Obj} {mC : Str → Option Value} {oI : Obj} {X : Shared → Prop}
    (Inv1 Inv2 : List Value → Prop) (x₀ : Str) (v₀ : Value) (h01 : x₀ ≠ x₁) (h02 : x₀ ≠ x₂) (hk0 : mC x₀ = some v₀)
    (hL : cenv.locals = C) (h1 : cenv.kindOf x₁ = some .local) (h2 : cenv.kindOf x₂ = some .local) (hxx : x₁ ≠ x₂) (hp : (cenv.scope.kind == .class || (cenv.scope.kind == .module && cenv.locals != cenv.globals)) = false)
    (hh : A.handled = none) (F : Fr h₀ L s.heap m) (hC : NsObj oC mC)
    (N : News h₀ L s.heap ((T, tupO [.ref t₁, .ref t₂]) :: (t₂, tupO [a₂, b₂]) :: (t₁, tupO [a₁, b₁]) :: (I, oI) :: (C, oC) :: (D, lst zs₀) :: Lg₁))
    (off : Off3 I C D ((T, tupO [.ref t₁, .ref t₂]) :: (t₂, tupO [a₂, b₂]) :: (t₁, tupO [a₁, b₁]) :: Lg₁)) (ne : (@Ne Nat I C) ∧ (@Ne Nat I D) ∧ (@Ne Nat C D))
    (turn1 : ∀ h tk I' oI' oC mC E', NsObj oC mC → mC x₀ = some v₀ → mC x₁ = some a₁ → mC x₂ = some b₁ → Fr h₀ L h m → News h₀ L h ((I', oI') :: (C, oC) :: (D, lst zs₀) :: (I, oI) :: (T, tupO [.ref t₁, .ref t₂]) :: (t₂, tupO [a₂, b₂]) :: (t₁, tupO [a₁, b₁]) :: Lg₁) →
      Off3 I' C D ((I, oI) :: (T, tupO [.ref t₁, .ref t₂]) :: (t₂, tupO [a₂, b₂]) :: (t₁, tupO [a₁, b₁]) :: Lg₁) → ((@Ne Nat I' C) ∧ (@Ne Nat I' D) ∧ (@Ne Nat C D)) →
      Emit prog w A cenv elt ifs (.ref D) E' { s with heap := h, toks := tk } (CEnd h₀ L m { s with heap := h, toks := tk } I' oI' C D id (fun _ => (I, oI) :: (T, tupO [.ref t₁, .ref t₂]) :: (t₂, tupO [a₂, b₂]) :: (t₁, tupO [a₁, b₁]) :: Lg₁) (fun mm => mm x₀ = some v₀) Inv1))
    (turn2 : ∀ zs h tk I' oI' oC mC E', Inv1 zs → NsObj oC mC → mC x₀ = some v₀ → mC x₁ = some a₂ → mC x₂ = some b₂ → Fr h₀ L h m → News h₀ L h ((I', oI') :: (C, oC) :: (D, lst zs) :: (I, oI) :: (T, tupO [.ref t₁, .ref t₂]) :: (t₂, tupO [a₂, b₂]) :: (t₁, tupO [a₁, b₁]) :: Lg₁) →
      Off3 I' C D ((I, oI) :: (T, tupO [.ref t₁, .ref t₂]) :: (t₂, tupO [a₂, b₂]) :: (t₁, tupO [a₁, b₁]) :: Lg₁) → ((@Ne Nat I' C) ∧ (@Ne Nat I' D) ∧ (@Ne Nat C D)) →
      Emit prog w A cenv elt ifs (.ref D) E' { s with heap := h, toks := tk } (CEnd h₀ L m { s with heap := h, toks := tk } I' oI' C D id (fun _ => (I, oI) :: (T, tupO [.ref t₁, .ref t₂]) :: (t₂, tupO [a₂, b₂]) :: (t₁, tupO [a₁, b₁]) :: Lg₁) (fun mm => mm x₀ = some v₀) Inv2))
    (done : ∀ zs h tk oC mC, Inv2 zs → NsObj oC mC → Fr h₀ L h m → News h₀ L h ((I, oI) :: (C, oC) :: (D, lst zs) :: Lg₁) → X { s with heap := h, toks := tk }) :
    wpAny (model prog w) A (pyIter (.ref T)) (fun it s₅ => codeAny (model prog w) A (.compStart (.ListComp elt [⟨t0, i0, [], 0⟩, ⟨.Tuple [.Name x₁ p₁, .Name x₂ p₂] kk tp, i1, ifs, 0⟩] scope pos) 1 it (.ref D) cenv) (fun r s' => match r with | .ok _ => X s' | .error e => cameBackBy (model prog w) A cenv E e s') s₅) E s := by
  refine inner_pairs (oI := oI) (mC := mC) (T := T) (items := [(t₁, a₁, b₁), (t₂, a₂, b₂)]) (Lg₀ := (T, tupO [.ref t₁, .ref t₂]) :: (t₂, tupO [a₂, b₂]) :: (t₁, tupO [a₁, b₁]) :: Lg₁) (zs₀ := zs₀) (fun j zs => match j with | 0 => zs = zs₀ | 1 => Inv1 zs | _ => Inv2 zs) x₀ v₀ h01 h02 hk0 hL h1 h2 hxx hp hh F hC ?_ off ne (.head _) ?_ rfl ?_ ?_
  · intro p hp
    refine N p ?_
    rcases List.mem_cons.mp hp with rfl | hp
    · exact .tail _ (.tail _ (.tail _ (.head _)))
    · rcases List.mem_cons.mp hp with rfl | hp
      · exact .tail _ (.tail _ (.tail _ (.tail _ (.head _))))
      · rcases List.mem_cons.mp hp with rfl | hp
        · exact .tail _ (.tail _ (.tail _ (.tail _ (.tail _ (.head _)))))
        · rcases List.mem_cons.mp hp with rfl | hp
          · exact .head _
          · rcases List.mem_cons.mp hp with rfl | hp
            · exact .tail _ (.head _)
            · rcases List.mem_cons.mp hp with rfl | hp
              · exact .tail _ (.tail _ (.head _))
              · exact .tail _ (.tail _ (.tail _ (.tail _ (.tail _ (.tail _ hp)))))
  · intro p hp
    rcases List.mem_cons.mp hp with rfl | hp
    · exact .tail _ (.tail _ (.head _))
    · rw [List.mem_singleton.mp hp]; exact .tail _ (.head _)
  · intro j p zs h tk I' oI' oC mC E' hj hJ hC hk a b F' N' off' ne'
    match j, hj with
    | 0, hj =>
      cases hj
      have hz : zs = zs₀ := hJ
      subst hz
      exact turn1 h tk I' oI' oC mC E' hC hk a b F' N' off' ne'
    | 1, hj =>
      cases hj
      exact turn2 zs h tk I' oI' oC mC E' hJ hC hk a b F' N' off' ne'
  · intro zs h tk oC mC hJ hC _ F' N'
    refine done zs h tk oC mC hJ hC F' fun p hp => N' p ?_
    rcases List.mem_cons.mp hp with rfl | hp
    · exact .head _
    · rcases List.mem_cons.mp hp with rfl | hp
      · exact .tail _ (.head _)
      · rcases List.mem_cons.mp hp with rfl | hp
        · exact .tail _ (.tail _ (.head _))
        · exact .tail _ (.tail _ (.tail _ (.tail _ (.tail _ (.tail _ hp)))))
end
end
-- L8
section
open PyProof.V PySem.Spec
section
variable {prog : Program} {w : World} {A : Around} {E : Value → Shared → Prop} {s : Shared} {env : Env} {h₀ : Heap} {L : Addr} {m : Str → Option Value} {news : Led} {t : Addr}
/-- a pair's store, its tuple in the ledger -/
theorem assign_two {x₁ x₂ : Str} {p₁ p₂ tp : Pos} {k : Nat} {v₁ v₂ : Value} {Q : Unit → Shared → Prop} (hh : A.handled = none) (F : Fr h₀ L s.heap m) (N : News h₀ L s.heap news) (hm : (t, tupO [v₁, v₂]) ∈ news)
    (h : ∀ h', Fr h₀ L h' m → News h₀ L h' news → wpAny (model prog w) A (storeName env x₁ v₁) (fun _ s₂ => wpAny (model prog w) A (storeName env x₂ v₂) Q E s₂) E { s with heap := h' }) :
    wpAny (model prog w) A (assign (.Tuple [.Name x₁ p₁, .Name x₂ p₂] k tp) env (.ref t)) Q E s := by
  have ht : IsTup s.heap t #[v₁, v₂] := ⟨_, (N _ hm).1, rfl, _, rfl⟩
  refine assign_Tuple_tuple hh ht rfl rfl fun h₅ he => ?_
  have he' : ∀ b o, s.heap.get? b = some o → h₅.get? b = some o := fun b o e => he b o (Nat.ne_of_lt (Heap.lt_size e)) e
  refine assignInOrder_cons (wpAny_assign_Name (wpAny_mono (h h₅ (F.keeps he') (N.grown he')) (fun _ s₂ h₂ => ?_) fun _ _ e => e))
  refine assignInOrder_cons (wpAny_assign_Name (wpAny_mono h₂ (fun _ s₃ h₃ => assignInOrder_nil h₃) fun _ _ e => e))
theorem assign_four {x₁ x₂ x₃ x₄ : Str} {p₁ p₂ p₃ p₄ tp : Pos} {k : Nat} {v₁ v₂ v₃ v₄ : Value} {Q : Unit → Shared → Prop} (hh : A.handled = none) (F : Fr h₀ L s.heap m) (N : News h₀ L s.heap news) (hm : (t, tupO [v₁, v₂, v₃, v₄]) ∈ news)
    (h : ∀ h', Fr h₀ L h' m → News h₀ L h' news → wpAny (model prog w) A (storeName env x₁ v₁) (fun _ s₂ => wpAny (model prog w) A (storeName env x₂ v₂) (fun _ s₃ => wpAny (model prog w) A (storeName env x₃ v₃) (fun _ s₄ => wpAny (model prog w) A (storeName env x₄ v₄) Q E s₄) E s₃) E s₂) E { s with heap := h' }) :
    wpAny (model prog w) A (assign (.Tuple [.Name x₁ p₁, .Name x₂ p₂, .Name x₃ p₃, .Name x₄ p₄] k tp) env (.ref t)) Q E s := by
  have ht : IsTup s.heap t #[v₁, v₂, v₃, v₄] := ⟨_, (N _ hm).1, rfl, _, rfl⟩
  refine assign_Tuple_tuple hh ht rfl rfl fun h₅ he => ?_
  have he' : ∀ b o, s.heap.get? b = some o → h₅.get? b = some o := fun b o e => he b o (Nat.ne_of_lt (Heap.lt_size e)) e
  refine assignInOrder_cons (wpAny_assign_Name (wpAny_mono (h h₅ (F.keeps he') (N.grown he')) (fun _ s₂ h₂ => ?_) fun _ _ e => e))
  refine assignInOrder_cons (wpAny_assign_Name (wpAny_mono h₂ (fun _ s₃ h₃ => ?_) fun _ _ e => e))
  refine assignInOrder_cons (wpAny_assign_Name (wpAny_mono h₃ (fun _ s₄ h₄ => ?_) fun _ _ e => e))
  refine assignInOrder_cons (wpAny_assign_Name (wpAny_mono h₄ (fun _ s₅ h₅ => assignInOrder_nil h₅) fun _ _ e => e))
/-- an item of a list of ints -/
theorem item_ints {value slice : Expr} {l : Addr} {vs : List Value} {ns : List Int} {k : Int} {ep : Nat} {u : Tok} {Q : Value → Shared → Prop} (N : News h₀ L s.heap news) (hm : (l, listOf vs.toArray ep) ∈ news) (hi : IntsAre vs ns)
    (h1 : Pre (0 ≤ k ∧ k < ns.length ∧ k < 2 ^ 62)) (h : ∀ t, Q (.int (ns.getD k.toNat 0) t) s)
    (hs : subscripted slice false (.ref l) (.int k u) = operate [.ref l, .int k u] (getItem (.ref l) (.int k u))) (hg : ∀ r, letTemporaryGo value (.ref l) r = pure ()) :
    wpAny (model prog w) A (subscriptTail value slice (.ref l) (.int k u)) Q E s := by
  have h1' : 0 ≤ k ∧ k < ns.length ∧ k < 2 ^ 62 := h1
  obtain ⟨t, ht⟩ : ∃ t, vs[k.toNat]? = some (.int (ns.getD k.toNat 0) t) := by
    have hlt : k.toNat < vs.length := by rw [hi.length]; omega
    obtain ⟨n, t, e, hn⟩ := hi.at k.toNat vs[k.toNat] (List.getElem?_eq_getElem hlt)
    refine ⟨t, ?_⟩
    rw [List.getElem?_eq_getElem hlt, e, List.getD_eq_getElem?_getD, hn]
    rfl
  exact kim_list N hm rfl rfl h1'.1 (by omega) ht (h t) hs hg
/-- an item of a list of whatever -/
theorem item_any {value slice : Expr} {l : Addr} {vs : List Value} {k : Int} {ep : Nat} {u : Tok} {Q : Value → Shared → Prop} (N : News h₀ L s.heap news) (hm : (l, listOf vs.toArray ep) ∈ news)
    (h1 : Pre (0 ≤ k ∧ k < vs.length ∧ k < 2 ^ 62)) (h : ∀ v, vs[k.toNat]? = some v → Q v s)
    (hs : subscripted slice false (.ref l) (.int k u) = operate [.ref l, .int k u] (getItem (.ref l) (.int k u))) (hg : ∀ r, letTemporaryGo value (.ref l) r = pure ()) :
    wpAny (model prog w) A (subscriptTail value slice (.ref l) (.int k u)) Q E s := by
  have h1' : 0 ≤ k ∧ k < vs.length ∧ k < 2 ^ 62 := h1
  have hlt : k.toNat < vs.length := by omega
  exact kim_list N hm rfl rfl h1'.1 (by omega) (List.getElem?_eq_getElem hlt) (h _ (List.getElem?_eq_getElem hlt)) hs hg
end
end
-- M7
section
noncomputable def tri : Nat → Nat
  | 0 => 0
  | k + 1 => tri k + (k + 1)
/-- the products of a count: the base less 1, its square less 1, and so on -/
noncomputable def prd (W : Nat) : Nat → Int
  | 0 => 1
  | k + 1 => prd W k * (2 ^ (W * (k + 1)) - 1)
theorem two_pow_pos (n : Nat) : (0 : Int) < 2 ^ n := Int.pow_pos (by decide)
theorem two_pow_ge (n : Nat) (h : 1 ≤ n) : (2 : Int) ≤ 2 ^ n := by
  obtain ⟨k, rfl⟩ : ∃ k, n = k + 1 := ⟨n - 1, by omega⟩
  rw [Int.pow_succ]
  have := two_pow_pos k
  omega
theorem prd_pos {W : Nat} (hW : 1 ≤ W) : ∀ k, 0 < prd W k
  | 0 => (by decide : (0 : Int) < 1)
  | k + 1 => by
    have h1 := prd_pos hW k
    have h2 := two_pow_ge (W * (k + 1)) (Nat.mul_pos hW (Nat.succ_pos k))
    exact Int.mul_pos h1 (by omega)
theorem prd_le {W : Nat} (hW : 1 ≤ W) : ∀ k, prd W k ≤ 2 ^ (W * tri k)
  | 0 => by simp [prd, tri]
  | k + 1 => by
    have h1 := prd_le hW k
    have h0 := prd_pos hW k
    have h2 := two_pow_ge (W * (k + 1)) (Nat.mul_pos hW (Nat.succ_pos k))
    show prd W k * (2 ^ (W * (k + 1)) - 1) ≤ 2 ^ (W * (tri k + (k + 1)))
    have e : (2 : Int) ^ (W * (tri k + (k + 1))) = 2 ^ (W * tri k) * 2 ^ (W * (k + 1)) := by rw [Nat.mul_add, Int.pow_add]
    rw [e]
    exact Int.mul_le_mul h1 (by omega) (by omega) (by have := two_pow_pos (W * tri k); omega)
theorem tri_le : ∀ {k : Nat}, k ≤ 8 → tri k ≤ 36 := by decide
theorem bits_le_of {x : Int} {n : Nat} (h0 : 0 ≤ x) (h : x ≤ 2 ^ n) (hn : n ≤ 21999) : Builtin.Int.intBits x ≤ 22000 :=
  Nat.le_trans (intBits_le h0 (show x < 2 ^ (n + 1) by rw [Int.pow_succ]; have := two_pow_pos n; omega)) (by omega)
theorem prd_bits {W k : Nat} (hW : 1 ≤ W) (h2 : W ≤ 603) (hk : k ≤ 8) : Builtin.Int.intBits (prd W k) ≤ 22000 :=
  bits_le_of (Int.le_of_lt (prd_pos hW k)) (prd_le hW k) (by
    have := Nat.mul_le_mul h2 (tri_le hk)
    omega)
noncomputable def prds (W n : Nat) : List Int := (List.range n).map (prd W)
theorem prds_one (W : Nat) : prds W 1 = [1] := rfl
theorem prds_succ (W n : Nat) : prds W (n + 1) = prds W n ++ [prd W n] := by simp [prds, List.range_succ]
theorem prds_len (W n : Nat) : (prds W n).length = n := by simp [prds]
theorem prds_getD {W n i : Nat} (h : i < n) : (prds W n).getD i 0 = prd W i := by
  simp [prds, List.getD_eq_getElem?_getD, List.getElem?_map, List.getElem?_range h]
theorem pow_arg {wd : Int} {i : Nat} (h : 4 ≤ wd) : (wd * (1 + (i : Int))).toNat = wd.toNat * (i + 1) := by
  obtain ⟨n, rfl⟩ : ∃ n : Nat, wd = n := ⟨wd.toNat, by omega⟩
  have : (n : Int) * (1 + (i : Int)) = ((n * (i + 1) : Nat) : Int) := by push_cast; rw [Int.add_comm]
  rw [this, Int.toNat_natCast, Int.toNat_natCast]
end
-- M8
section
theorem rangeSize1 (a b : Int) : Builtin.Range.rangeSize a b 1 = ((b - a).toNat : Int) := by
  unfold Builtin.Range.rangeSize
  simp only [show ((1 : Int) > 0) by decide, if_true, Int.ediv_one]
  split <;> omega
noncomputable abbrev toS (r : List Nat) : Str := ⟨r.toArray⟩
/-- one step of the rows -/
noncomputable def rowsStep (a b : Nat) (rows : List (List Nat)) : List (List Nat) :=
  rows.flatMap fun r => (if r.count 32 < a then [r ++ [32]] else []) ++ (if r.count 9 < b then [r ++ [9]] else [])
noncomputable def rowsN (a b : Nat) : Nat → List (List Nat)
  | 0 => [[9]]
  | k + 1 => rowsStep a b (rowsN a b k)
/-- the signs of a row, its first sign -/
noncomputable def RowOk (k : Nat) (r : List Nat) : Prop := r.length = k ∧ ∀ c ∈ r, c = 32 ∨ c = 9
theorem rowsN_ok (a b : Nat) : ∀ k, ∀ r ∈ rowsN a b k, RowOk (k + 1) r
  | 0, r, h => by
    rw [List.mem_singleton.mp h]
    exact ⟨rfl, by simp⟩
  | k + 1, r, h => by
    obtain ⟨q, hq, hr⟩ := List.mem_flatMap.mp h
    obtain ⟨h1, h2⟩ := rowsN_ok a b k q hq
    rcases List.mem_append.mp hr with hr | hr
    · split at hr
      · rw [List.mem_singleton.mp hr]
        refine ⟨by simp [h1], fun c hc => ?_⟩
        rcases List.mem_append.mp hc with hc | hc
        · exact h2 c hc
        · exact .inl (List.mem_singleton.mp hc)
      · cases hr
    · split at hr
      · rw [List.mem_singleton.mp hr]
        refine ⟨by simp [h1], fun c hc => ?_⟩
        rcases List.mem_append.mp hc with hc | hc
        · exact h2 c hc
        · exact .inr (List.mem_singleton.mp hc)
      · cases hr
theorem rowsN_len (a b : Nat) : ∀ k, (rowsN a b k).length ≤ 2 ^ k
  | 0 => by simp [rowsN]
  | k + 1 => by
    have := rowsN_len a b k
    show (rowsStep a b (rowsN a b k)).length ≤ _
    unfold rowsStep
    generalize rowsN a b k = rows at this
    have key : ∀ l : List (List Nat), (l.flatMap fun r => (if r.count 32 < a then [r ++ [32]] else []) ++ (if r.count 9 < b then [r ++ [9]] else [])).length ≤ 2 * l.length := by
      intro l
      induction l with
      | nil => simp
      | cons x l ih =>
        rw [List.flatMap_cons, List.length_append, List.length_cons]
        have : ((if x.count 32 < a then [x ++ [32]] else []) ++ (if x.count 9 < b then [x ++ [9]] else [])).length ≤ 2 := by
          rw [List.length_append]
          split <;> split <;> simp
        omega
    have := key rows
    rw [Nat.pow_succ]
    omega
inductive TextsAre : List Value → List (List Nat) → Prop
  | nil : TextsAre [] []
  | cons {vs rs} (r : List Nat) (t : Tok) : TextsAre vs rs → TextsAre (.str (toS r) t :: vs) (r :: rs)
theorem TextsAre.length {vs rs} (H : TextsAre vs rs) : vs.length = rs.length := by
  induction H with
  | nil => rfl
  | cons r t h ih => exact congrArg Nat.succ ih
theorem TextsAre.at {vs rs} (H : TextsAre vs rs) : ∀ {i : Nat} {v}, vs[i]? = some v → ∃ r t, rs[i]? = some r ∧ v = .str (toS r) t := by
  induction H with
  | nil => intro i v h; cases h
  | cons r t x ih =>
    intro i v h
    cases i with
    | zero => exact ⟨r, t, rfl, (Option.some.inj h).symm⟩
    | succ i => exact ih h
theorem TextsAre.append {vs rs ws qs} (H : TextsAre vs rs) (h : TextsAre ws qs) : TextsAre (vs ++ ws) (rs ++ qs) := by
  induction H with
  | nil => exact h
  | cons r t x ih => exact .cons r t ih
theorem TextsAre.snoc {vs rs} (h : TextsAre vs rs) (r : List Nat) (t : Tok) : TextsAre (vs ++ [.str (toS r) t]) (rs ++ [r]) := h.append (.cons r t .nil)
end
-- M9
section
open StrLaws Builtin Builtin.Str
theorem toS_add (a b : List Nat) : toS a ++ toS b = toS (a ++ b) := by
  show (⟨a.toArray ++ b.toArray⟩ : Str) = ⟨(a ++ b).toArray⟩
  rw [List.append_toArray]
theorem toS_len (a : List Nat) : (toS a).length = a.length := by simp [toS, Str.length]
theorem subAt_one (r : List Nat) (c i : Nat) : subAt (toS r) (toS [c]) i = (r[i]? == some c) := by
  unfold subAt
  show ((r.toArray.extract i (i + 1)) == #[c]) = _
  rw [List.extract_toArray]
  by_cases h : i < r.length
  · have : r.extract i (i + 1) = [r[i]] := by
      rw [List.extract_eq_drop_take, show i + 1 - i = 1 by omega, List.drop_eq_getElem_cons h]
      rfl
    rw [this, List.getElem?_eq_getElem h]
    simp
  · have : r.extract i (i + 1) = [] := by
      rw [List.extract_eq_drop_take, List.drop_of_length_le (by omega), List.take_nil]
    rw [this, List.getElem?_eq_none (by omega)]
    simp
theorem occ_size (r : List Nat) (c : Nat) : ∀ (k i : Nat) (st : Array Nat × Nat), i + k = r.length + 1 → st.2 ≤ i → st.1.size ≤ i →
    (forIn (List.range' i k) st (occBody (toS r) (toS [c]) r.length (r.length + 1))).run.fst.size = st.1.size + (r.drop i).count c
  | 0, i, st, h, _, _ => by
    rw [List.drop_of_length_le (by omega)]
    rfl
  | k + 1, i, st, h, h1, h2 => by
    rw [List.range'_succ, List.forIn_cons]
    have hlen : (toS [c]).length = 1 := toS_len [c]
    unfold occBody
    rw [subAt_one, hlen]
    by_cases hi : i < r.length
    · rw [List.drop_eq_getElem_cons hi, List.count_cons, List.getElem?_eq_getElem hi]
      by_cases hc : r[i] = c
      · rw [if_pos ⟨⟨⟨by omega, h1⟩, by omega⟩, by simp [hc]⟩]
        have := occ_size r c k (i + 1) (st.fst.push i, i + 1) (by omega) (Nat.le_refl _) (by simp only [Array.size_push]; omega)
        refine Eq.trans this ?_
        simp only [Array.size_push, hc, beq_self_eq_true, if_true]
        omega
      · rw [if_neg (by rintro ⟨_, h5⟩; simp [hc] at h5)]
        have := occ_size r c k (i + 1) (st.fst, st.snd) (by omega) (by show st.snd ≤ i + 1; omega) (by show st.fst.size ≤ i + 1; omega)
        refine Eq.trans this ?_
        simp [hc]
    · rw [if_neg (by rintro ⟨⟨_, h5⟩, _⟩; omega)]
      have := occ_size r c k (i + 1) (st.fst, st.snd) (by omega) (by show st.snd ≤ i + 1; omega) (by show st.fst.size ≤ i + 1; omega)
      refine Eq.trans this ?_
      rw [List.drop_of_length_le (by omega), List.drop_of_length_le (by omega)]
theorem count_row (r : List Nat) (c : Nat) : Txt.count (toS r) (toS [c]) = (r.count c : Int) := by
  unfold Txt.count
  rw [occ_eq, Array.length_toList, toS_len]
  have := occ_size r c (r.length + 1) 0 (#[], 0) (by omega) (Nat.le_refl _) (Nat.le_refl _)
  rw [Nat.sub_zero, this]
  simp
theorem rowsStep_len (a b : Nat) : ∀ l : List (List Nat), (rowsStep a b l).length ≤ 2 * l.length
  | [] => by simp [rowsStep]
  | x :: l => by
    have ih := rowsStep_len a b l
    unfold rowsStep at ih ⊢
    rw [List.flatMap_cons, List.length_append, List.length_cons]
    have : ((if x.count 32 < a then [x ++ [32]] else []) ++ (if x.count 9 < b then [x ++ [9]] else [])).length ≤ 2 := by
      rw [List.length_append]
      split <;> split <;> simp
    omega
theorem rowsStep_snoc (a b : Nat) {rows : List (List Nat)} {j : Nat} {r : List Nat} (h : rows[j]? = some r) :
    rowsStep a b (rows.take (j + 1)) = rowsStep a b (rows.take j) ++ (if r.count 32 < a then [r ++ [32]] else []) ++ (if r.count 9 < b then [r ++ [9]] else []) := by
  rw [List.take_add_one, h]
  simp [rowsStep, List.flatMap_append]
theorem rowsN_take_len (a b : Nat) {i : Nat} (hi : i ≤ 7) (j : Nat) : (rowsStep a b ((rowsN a b i).take j)).length ≤ 256 := by
  have h1 := rowsStep_len a b ((rowsN a b i).take j)
  have h2 := rowsN_len a b i
  have h3 : (2 : Nat) ^ i ≤ 2 ^ 7 := Nat.pow_le_pow_right (by decide) hi
  rw [List.length_take] at h1
  omega
theorem ite_cnt {α : Type} {n : Nat} {k : Int} {x y : α} : (if (n : Int) < k then x else y) = (if n < k.toNat then x else y) := by
  by_cases h : (n : Int) < k
  · rw [if_pos h, if_pos (by omega)]
  · rw [if_neg h, if_neg (by omega)]
end
-- LD
theorem fresh_LD : True := by
  w_top off
  exact trivial
noncomputable def lawO (P : Params) : {o : Obj // (hd.heap_39 P).lookup 148 = some o} := ⟨_, by k_is⟩
noncomputable def scopeOf (o : Obj) : Scope := match o.data with
  | .func fd => fd.scope
  | _ => default
noncomputable abbrev lawBody (P : Params) : List Stmt := stmtsOf (lawO P).1
noncomputable abbrev lawScope (P : Params) : Scope := scopeOf (lawO P).1
noncomputable abbrev lawEnv (P : Params) (L fa : Addr) (cd : Value) : Env := envOfC (Str.ofString "law") (lawScope P) L fa cd
noncomputable abbrev forBody (st : Stmt) : List Stmt := (sParts st).1.2
noncomputable abbrev asgVal (st : Stmt) : Expr := (sParts st).2.2
noncomputable def eParts (e : Expr) : (Expr × List Comprehension) × (Scope × List Expr) := match e with
  | .ListComp a g s _ => ((a, g), (s, []))
  | .BoolOp _ es _ => ((default, []), (default, es))
  | .Compare l _ _ _ => ((l, []), (default, []))
  | .Call _ as _ _ => ((default, []), (default, as))
  | _ => ((default, []), (default, []))
noncomputable abbrev lcElt (e : Expr) : Expr := (eParts e).1.1
noncomputable abbrev lcGens (e : Expr) : List Comprehension := (eParts e).1.2
noncomputable abbrev lcScope (e : Expr) : Scope := (eParts e).2.1
noncomputable def headE (l : List Expr) : Expr := match l with | s :: _ => s | _ => default
noncomputable def headS (l : List Stmt) : Stmt := match l with | s :: _ => s | _ => .Pass default
noncomputable def headG (l : List Comprehension) : Comprehension := match l with | s :: _ => s | _ => default
theorem drawn4 {ns : List Int} {ws : List Value} (h : IntsAre ws (List.take 4 ns ++ List.drop (↑ns.length : Int).toNat [3, 2, 8, 0])) : ∃ a b c d : Int, IntsAre ws [a, b, c, d] := by
  rw [Int.toNat_natCast] at h
  match ns, h with
  | [], h => exact ⟨_, _, _, _, h⟩
  | [_], h => exact ⟨_, _, _, _, h⟩
  | [_, _], h => exact ⟨_, _, _, _, h⟩
  | [_, _, _], h => exact ⟨_, _, _, _, h⟩
  | a :: b :: c :: d :: r, h =>
    refine ⟨a, b, c, d, ?_⟩
    rw [List.drop_eq_nil_of_le (by simp), List.append_nil] at h
    exact h
theorem item_last {prog : Program} {w : World} {A : Around} {E : Value → Shared → Prop} {s : Shared} {h₀ : Heap} {L : Addr} {news : Led} {value slice : Expr} {l : Addr} {vs : List Value} {ns : List Int} {x : Int} {ep : Nat} {u : Tok} {Q : Value → Shared → Prop} (N : News h₀ L s.heap news) (hm : (l, listOf vs.toArray ep) ∈ news) (hi : IntsAre vs (ns ++ [x]))
    (h : ∀ t, Q (.int x t) s)
    (hs : subscripted slice false (.ref l) (.int (-1) u) = operate [.ref l, .int (-1) u] (getItem (.ref l) (.int (-1) u))) (hg : ∀ r, letTemporaryGo value (.ref l) r = pure ()) :
    wpAny (model prog w) A (subscriptTail value slice (.ref l) (.int (-1) u)) Q E s := by
  have hl : vs.length = ns.length + 1 := by rw [hi.length]; simp
  obtain ⟨t, ht⟩ : ∃ t, vs[ns.length]? = some (.int x t) := by
    have hlt : ns.length < vs.length := by omega
    obtain ⟨n, t, e, hn⟩ := hi.at ns.length vs[ns.length] (List.getElem?_eq_getElem hlt)
    refine ⟨t, ?_⟩
    rw [List.getElem?_eq_getElem hlt, e]
    simp at hn
    rw [hn]
  exact kim_back N hm rfl rfl (by decide) (by rw [hl]; omega) (by decide) (by rw [hl, show ((-1 : Int) + ((ns.length + 1 : Nat) : Int)).toNat = ns.length by omega]; exact ht) (h t) hs hg
theorem frN {h₀ h : Heap} {L : Addr} {mm : Str → Option Value} (n : Str) (v : Value) (F : Fr h₀ L h mm) (e : mm n = some v) : Fr h₀ L h (fun z => if z = n then some v else mm z) := by
  have : (fun z => if z = n then some v else mm z) = mm := by
    funext z
    by_cases hz : z = n
    · rw [if_pos hz, hz, e]
    · rw [if_neg hz]
  rw [this]; exact F
theorem pow_preL {e : Int} (h0 : 0 ≤ e) (h : e ≤ 603 * 8) : (Builtin.Int.intBits 2 : Int) * e ≤ 2 ^ 27 := by
  rw [show Builtin.Int.intBits 2 = 2 from rfl]; omega
theorem add_strP {prog : Program} {w : World} {A : Around} {E : Value → Shared → Prop} {s : Shared} {x y : List Nat} {t u : Tok} {Q : Value → Shared → Prop} (h1 : Pre (x.length + y.length ≤ 2 ^ 20)) (h : ∀ t' tk, Q (.str (toS (x ++ y)) t') { s with toks := tk }) :
    wpAny (model prog w) A (binaryOp .Add (.str (toS x) t) (.str (toS y) u)) Q E s := by
  refine PyProof.Rows.add_str (fun t' tk => ?_) ?_
  · rw [toS_add]; exact h t' tk
  · rw [toS_len, toS_len, sizeLine_eq]
    have h1' : x.length + y.length ≤ 2 ^ 20 := h1
    omega
theorem tab_texts (t : Tok) : TextsAre [.str (Str.ofString "\t") t] [[9]] := (show Str.ofString "\t" = toS [9] by decide +kernel) ▸ TextsAre.cons [9] t .nil
-- M10
section
noncomputable def toldL (n : Nat) (r : List Nat) : List Int := (List.range n).map fun k => coll (r.drop k ++ r.take k) r
noncomputable def leadL (r : List Nat) : List Nat := r.drop 1 ++ r.take 1
noncomputable def symL (n : Nat) (r : List Nat) : Int := ((toldL n r).count 0 : Nat)
noncomputable def eqW (a b : List Nat) : Bool := (wsF a).ns == (wsF b).ns && (wsF a).b == (wsF b).b
noncomputable abbrev PK := List Nat × List Int
noncomputable def addK (l : List Nat) (s : Int) : List PK → List PK
  | [] => [(l, [s])]
  | k :: ks => if eqW l k.1 then (k.1, k.2 ++ [s]) :: ks else k :: addK l s ks
noncomputable def rowF (n : Nat) (st : List Int × List PK) (r : List Nat) : List Int × List PK :=
  if (toldL n r).contains (-1) then st else (st.1 ++ [symL n r], addK (leadL r) (symL n r) st.2)
noncomputable def rowsF (n : Nat) (rows : List (List Nat)) : List Int × List PK := rows.foldl (rowF n) ([], [])
/-- the blanks of a norm's counts: long times many -/
noncomputable def blanksL : Nat → List Int → List Int
  | _, [] => []
  | k, x :: xs => (k : Int) * x :: blanksL (k + 1) xs
noncomputable def rowGood (n tb : Nat) (r : List Nat) : Bool :=
  (toldL n r).contains (-1) || (((toldL n r).count 0 + (toldL n r).count 1 == n) && (wsF (leadL r)).n == n && (wsF (leadL r)).t == tb && (blanksL 0 (wsF (leadL r)).ns).sum == ((n : Int) - tb) && (wsF (leadL r)).b == 0 && !(eqW (leadL r) (leadL r ++ [32])))
noncomputable def rowsAll (n tb : Nat) : List (List Nat) := rowsN (n - tb) tb (n - 1)
theorem rows_good : ∀ n, n < 9 → 3 ≤ n → ∀ tb, tb ≤ n → 1 ≤ tb → (rowsAll n tb).all (rowGood n tb) = true := by decide +kernel
theorem slice_of (r : List Nat) (l u : Option Int) (a b : Nat) (hb : b ≤ r.length) (e : Builtin.Str.strSliceIndices l u 1 r.length = (List.range (b - a)).map (a + ·)) : Txt.slice (toS r) l u = toS ((r.drop a).take (b - a)) := by
  unfold Txt.slice
  rw [toS_len, e, List.length_map, List.length_range]
  split
  · rename_i h
    have h' : b - a = r.length := by simpa using h
    by_cases h0 : r.length = 0
    · have : r = [] := List.length_eq_zero_iff.mp h0
      subst this; simp
    · have ha : a = 0 := by omega
      have hb' : b = r.length := by omega
      subst ha hb'
      simp
  · show Str.mk _ = Str.mk _
    congr 1
    have := pick_run r.toArray a (b - a)
    show (List.filterMap (fun x => r.toArray[x]?) _).toArray = _
    rw [this]
theorem slice_from (r : List Nat) (k : Nat) : Txt.slice (toS r) (some (0 + (k : Int))) none = toS (r.drop k) := by
  rw [slice_of r _ _ (min k r.length) r.length (Nat.le_refl _) ?_, kmk_drop_min, List.take_of_length_le (by simp; omega)]
  unfold Builtin.Str.strSliceIndices
  simp only [show (1 : Int) > 0 by decide, if_true, if_neg (show ¬ (0 + (k : Int) < 0) by omega)]
  rw [← sliceRange_one]
  congr 1
  omega
theorem slice_upto (r : List Nat) (k : Nat) : Txt.slice (toS r) none (some (0 + (k : Int))) = toS (r.take k) := by
  rw [slice_of r _ _ 0 (min k r.length) (Nat.min_le_right _ _) ?_, List.drop_zero, Nat.sub_zero, kmk_take_min]
  unfold Builtin.Str.strSliceIndices
  simp only [show (1 : Int) > 0 by decide, if_true, if_neg (show ¬ (0 + (k : Int) < 0) by omega)]
  rw [← sliceRange_one]
  congr 1
  omega
theorem any_neg1 (l : List Int) : (l.any fun x => x == -1) = l.contains (-1) := by
  rw [List.contains_eq_any_beq]
  congr 1
  funext x
  exact BEq.comm
theorem row_facts {n tb : Nat} {r : List Nat} (h : rowGood n tb r = true) (h1 : ((toldL n r).any fun x => x == -1) = false) :
    (toldL n r).count 0 + (toldL n r).count 1 = n ∧ (wsF (leadL r)).n = n ∧ (wsF (leadL r)).t = tb ∧ (blanksL 0 (wsF (leadL r)).ns).sum = (n : Int) - tb ∧ (wsF (leadL r)).b = 0 ∧ eqW (leadL r) (leadL r ++ [32]) = false := by
  rw [any_neg1] at h1
  unfold rowGood at h
  rw [h1] at h
  simp only [Bool.false_or, Bool.and_eq_true, beq_iff_eq, Bool.not_eq_true'] at h
  obtain ⟨⟨⟨⟨⟨a, b⟩, c⟩, d⟩, e⟩, f⟩ := h
  exact ⟨a, b, c, d, e, f⟩
theorem rowF_skip {n : Nat} {r : List Nat} {st : List Int × List PK} (h : ((toldL n r).any fun x => x == -1) = true) : rowF n st r = st := by
  rw [any_neg1] at h
  unfold rowF
  rw [if_pos h]
theorem rowF_go {n : Nat} {r : List Nat} {st : List Int × List PK} (h : ((toldL n r).any fun x => x == -1) = false) : rowF n st r = (st.1 ++ [symL n r], addK (leadL r) (symL n r) st.2) := by
  rw [any_neg1] at h
  unfold rowF
  rw [if_neg (by rw [h]; decide)]
theorem slice_1 (r : List Nat) : Txt.slice (toS r) (some 1) none = toS (r.drop 1) := slice_from r 1
theorem item_0 {r : List Nat} (h : 1 ≤ r.length) : Txt.item (toS r) 0 = toS (r.take 1) := by
  match r, h with
  | a :: l, _ =>
    unfold Txt.item Txt.charAt
    have : seqIndex? 0 (toS (a :: l)).length = some 0 := by
      rw [toS_len]
      unfold seqIndex?
      simp
    rw [this]
    rfl
theorem lead_len {r : List Nat} : (leadL r).length = r.length := by
  unfold leadL
  rw [List.length_append, List.length_drop, List.length_take]
  omega
theorem lead_mem {k : Nat} {r : List Nat} (h : RowOk k r) : ∀ c ∈ leadL r, c = 32 ∨ c = 9 := by
  intro c hc
  rcases List.mem_append.mp hc with hc | hc
  · exact h.2 c (List.mem_of_mem_drop hc)
  · exact h.2 c (List.mem_of_mem_take hc)
theorem lead_mem2 {k : Nat} {r : List Nat} (h : RowOk k r) : ∀ c ∈ leadL r ++ [32], c = 32 ∨ c = 9 := by
  intro c hc
  rcases List.mem_append.mp hc with hc | hc
  · exact lead_mem h c hc
  · exact .inl (List.mem_singleton.mp hc)
end
-- E2
section
open PyProof.V PySem.Spec
open AutoSeq1 (wpAny_loadPart')
section
variable {prog : Program} {w : World} {A : Around} {E : Value → Shared → Prop} {s : Shared}
theorem makes_enumT (l : Addr) (o : Obj) (items : Array Value) (hc : o.cls = .type "tuple") (hd : ∃ n, o.data = .seq items n) :
    Meets (Builtin.«enumerate.__new__» ⟨[.type "enumerate", .ref l], []⟩) (fun _ R s => s.heap.get? l = some o ∧
      R (.ok (.ret (.ref (s.heap.push { cls := .type "tuple_iterator", data := .fields #[.ref l, .int 0 0] }).objs.size)))
        { s with heap := (s.heap.push { cls := .type "tuple_iterator", data := .fields #[.ref l, .int 0 0] }).push { cls := .type "enumerate", data := .fields #[.none, .bool false, .ref s.heap.objs.size, rawInt 0, .none, .none] } }) :=
  .of_wp fun prog w A R s h => by
    obtain ⟨hp, g, d, tk, os⟩ := s; obtain ⟨hl, h⟩ := h
    have hsub := sub_enumerate
    have hT : Heap.IsTuple (Shared.heap ⟨hp, g, d, tk, os⟩) l items := ⟨o, hl, hc, hd⟩
    wp_walk using wpAny_loadPart' hl
    refine wpAny_stack_any fun st => wpAny_pure ?_
    split
    · rename_i c _ _ _ _ _
      cases (c == Value.type "enumerate")
      · wp_walk using wpAny_loadPart' hl, wpAny_pyIter_tuple hT
        exact ⟨_, rfl, h⟩
      · wp_walk using wpAny_loadPart' hl, wpAny_pyIter_tuple hT
        exact ⟨_, rfl, h⟩
    · wp_walk using wpAny_loadPart' hl, wpAny_pyIter_tuple hT
      exact ⟨_, rfl, h⟩
/-- enumerate of a tuple of the ledger -/
theorem call_enumT {h₀ : Heap} {L t : Addr} {m : Str → Option Value} {news : Led} {vs : List Value} {Q : Value → Shared → Prop} (FF : Fr h₀ L s.heap m) (N : News h₀ L s.heap news) (hm : (t, tupO vs) ∈ news)
    (h : ∀ h', IsEnum h' (s.heap.objs.size + 1) s.heap.objs.size 0 .none → h'.IsTupleIter s.heap.objs.size t 0 → h'.objs.size = s.heap.objs.size + 2 → Fr h₀ L h' m → News h₀ L h' news →
      (∀ b o, s.heap.get? b = some o → h'.get? b = some o) → Q (.ref (s.heap.objs.size + 1)) { s with heap := h' }) :
    wpAny (model prog w) A (call (.type "enumerate") [.ref t]) Q E s := by
  have hT := (N _ hm).1
  refine callType_new F.called_enumerate (by decide) (F.typeCall_enumerate_1 _) (F.newCall_enumerate_1 _) (fun obj => F.args_object_init_2 obj _) F.entry_enumerate_new
    (makes_enumT t _ vs.toArray rfl ⟨_, rfl⟩) ⟨hT, ?_⟩
  have hz : (s.heap.push { cls := .type "tuple_iterator", data := .fields #[.ref t, .int 0 0] }).objs.size = s.heap.objs.size + 1 := Heap.size_push ..
  show _ ∧ _
  rw [hz]
  have he : IsEnum ((s.heap.push { cls := .type "tuple_iterator", data := .fields #[.ref t, .int 0 0] }).push
      { cls := .type "enumerate", data := .fields #[.none, .bool false, .ref s.heap.objs.size, rawInt 0, .none, .none] }) (s.heap.objs.size + 1) s.heap.objs.size 0 .none := by
    have := Heap.get?_push_size (s.heap.push { cls := .type "tuple_iterator", data := .fields #[.ref t, .int 0 0] })
      (o := { cls := .type "enumerate", data := .fields #[.none, .bool false, .ref s.heap.objs.size, rawInt 0, .none, .none] }) rfl
    rw [hz] at this; exact this
  refine ⟨⟨_, he, rfl⟩, h _ he ⟨_, Heap.get?_push_of_some _ (Heap.get?_push_size _ rfl), rfl, rfl⟩ (by rw [Heap.size_push, hz]) ((FF.push _).push _) (fun p hp => ⟨Heap.get?_push_of_some _ (Heap.get?_push_of_some _ (N p hp).1), (N p hp).2⟩) fun b o x => Heap.get?_push_of_some _ (Heap.get?_push_of_some _ x)⟩
/-- the inner iterator's step, for a tuple -/
theorem nextT_item {it t : Addr} {i : Nat} {items : Array Value} {x : Value} {Q : Value → Shared → Prop} (hit : s.heap.IsTupleIter it t i) (ht : s.heap.IsTuple t items) (hx : items[i]? = some x)
    (hQ : ∀ h', h'.IsTupleIter it t (i + 1) → Heap.SameBut it s.heap h' → Q x { s with heap := h' }) : wpAny (model prog w) A (Builtin.SmallTypes.nextOf (.ref it)) Q E s := by
  obtain ⟨o, ho, hc, hd⟩ := id hit
  obtain ⟨ol, hol, _, nl, hdl⟩ := ht
  unfold Builtin.SmallTypes.nextOf
  refine wpAny_bind (wpAny_callSpecial?_slot (name := Str.ofString "__next__") hit.typeIs F.slot_tuple_iterator_next (wpAny_call_entry F.slot_tuple_iterator_next hit.typeIs F.entry_tuple_iterator_next ?_ (F.args_tuple_iterator_next_1 _)))
  show wpAny _ _ (field (.ref it) 0 >>= _) _ _ s
  refine wpAny_bind (wpAny_field ho hd (x := .ref t) rfl ?_)
  show wpAny _ _ (if (Value.ref t == Value.none) = true then _ else _) _ _ s
  rw [if_neg (show ¬ ((Value.ref t == Value.none) = true) from Bool.false_ne_true)]
  show wpAny _ _ (field (.ref it) 1 >>= _) _ _ s
  refine wpAny_bind (wpAny_field ho hd (x := .int i 0) rfl ?_)
  show wpAny _ _ (seqItems? (.ref t) >>= _) _ _ s
  refine wpAny_bind (wpAny_seqItems hol hdl ?_)
  rw [Int.toNat_natCast]; dsimp only; rw [hx]; dsimp only
  refine wpAny_bind (wpAny_setField ho hd (by simp) (wpAny_pure ⟨x, rfl, wpAny_pure (hQ _ ⟨_, Heap.get?_update_self _ ho (Obj.isFreed_of_fields (Obj.data_mapFields hd _)), (Obj.cls_mapFields ..).trans hc, ?_⟩ (Heap.SameBut.update ..))⟩))
  rw [Obj.data_mapFields hd]; simp [rawInt]
theorem nextT_end {it t : Addr} {i : Nat} {items : Array Value} {Q : Value → Shared → Prop} (hh : A.handled = none) (hit : s.heap.IsTupleIter it t i) (ht : s.heap.IsTuple t items) (hx : items[i]? = none)
    (hE : ∀ h' e, Heap.ExtBut it s.heap h' → (∃ o, h'.get? e = some o ∧ o.cls = .type "StopIteration") → E (.ref e) { s with heap := h' }) : wpAny (model prog w) A (Builtin.SmallTypes.nextOf (.ref it)) Q E s := by
  obtain ⟨o, ho, hc, hd⟩ := id hit
  obtain ⟨ol, hol, _, nl, hdl⟩ := ht
  unfold Builtin.SmallTypes.nextOf
  refine wpAny_bind (wpAny_callSpecial?_slot (name := Str.ofString "__next__") hit.typeIs F.slot_tuple_iterator_next (wpAny_call_entry F.slot_tuple_iterator_next hit.typeIs F.entry_tuple_iterator_next ?_ (F.args_tuple_iterator_next_1 _)))
  show wpAny _ _ (field (.ref it) 0 >>= _) _ _ s
  refine wpAny_bind (wpAny_field ho hd (x := .ref t) rfl ?_)
  show wpAny _ _ (if (Value.ref t == Value.none) = true then _ else _) _ _ s
  rw [if_neg (show ¬ ((Value.ref t == Value.none) = true) from Bool.false_ne_true)]
  show wpAny _ _ (field (.ref it) 1 >>= _) _ _ s
  refine wpAny_bind (wpAny_field ho hd (x := .int i 0) rfl ?_)
  show wpAny _ _ (seqItems? (.ref t) >>= _) _ _ s
  refine wpAny_bind (wpAny_seqItems hol hdl ?_)
  rw [Int.toNat_natCast]; dsimp only; rw [hx]; dsimp only
  refine wpAny_bind (wpAny_rule (wpAny_bind (wpAny_setField ho hd (by simp) ?_)))
  show wpAny _ _ (newExc (.type "StopIteration") [] >>= _) _ _ _
  refine wpAny_bind ?_
  simp only [newExc, newTuple]
  refine wpAny_bind (wpAny_newObj_type ?_ (by size_fits))
  refine wpAny_bind (m := firstArgMember _ _) (wpAny_of_eq (a := Value.none) (by first | rfl | (simp only [firstArgMember]; rfl)) ?_)
  refine wpAny_newObj_type ?_ (by size_fits)
  delta raiseNew; dsimp only
  refine wpAny_bind (wpAny_handled ?_)
  first | rw [show A.in1.handled = none from hh] | rw [hh]
  refine wpAny_bind (wpAny_pure (wpAny_throw ?_))
  exact hE _ _ (((Heap.SameBut.update ..).extBut.push _).push _) ⟨_, Heap.get?_push_size _ rfl, rfl⟩
/-- what enumerate's own step does behind the inner one -/
theorem enumT_item {e it t : Addr} {i : Nat} {items : Array Value} {x old : Value} {Q : Value → Shared → Prop}
    (he : IsEnum s.heap e it i old) (hit : s.heap.IsTupleIter it t i) (ht : s.heap.IsTuple t items) (hx : items[i]? = some x) (hne : e ≠ it)
    (hQ : ∀ h', IsEnumOut h' e it ((i : Int) + 1) x s.heap.objs.size → h'.IsTupleIter it t (i + 1) →
      h'.get? s.heap.objs.size = some { cls := .type "tuple", data := .seq #[.int i s.toks, x] } → h'.objs.size = s.heap.objs.size + 1 →
      (∀ b o, b ≠ e → b ≠ it → s.heap.get? b = some o → h'.get? b = some o) → Q (.ref s.heap.objs.size) { s with heap := h', toks := s.toks + 1 }) :
    wpAny (model prog w) A (Builtin.«enumerate.__next__» ⟨[.ref e], []⟩) (fun fin s' => ∃ v, fin = .done (.ret v) ∧ Q v s') E s := by
  obtain ⟨hp, g, d, tk, os⟩ := s
  show wpAny _ _ (field (.ref e) 2 >>= _) _ _ _
  refine wpAny_bind (wpAny_field he rfl (x := .ref it) rfl ?_)
  refine wpAny_bind (nextT_item hit ht hx fun h₁ hit₁ hs₁ => ?_)
  replace hs₁ : Heap.SameBut it hp h₁ := hs₁
  have he₁ : IsEnum h₁ e it i old := (hs₁.2 e hne).trans he
  show wpAny _ _ (field (.ref e) 3 >>= _) _ _ ⟨h₁, g, d, tk, os⟩
  refine wpAny_bind (wpAny_field he₁ rfl (x := rawInt i) rfl ?_)
  show wpAny _ _ (field (.ref e) 4 >>= _) _ _ ⟨h₁, g, d, tk, os⟩
  refine wpAny_bind (wpAny_field he₁ rfl (x := .none) rfl ?_)
  show wpAny _ _ (mkInt i >>= _) _ _ ⟨h₁, g, d, tk, os⟩
  refine wpAny_bind (wpAny_mkInt ?_)
  show wpAny _ _ (setField (.ref e) 3 (rawInt ((i : Int) + 1)) >>= _) _ _ ⟨h₁, g, d, tk + 1, os⟩
  refine wpAny_bind (wpAny_setField_rec he₁ (by simp) fun h₂ he₂ hs₂ => ?_)
  replace hs₂ : Heap.SameBut e h₁ h₂ := hs₂
  replace he₂ : IsEnum h₂ e it ((i : Int) + 1) old := he₂
  show wpAny _ _ (setField (.ref e) 4 .none >>= _) _ _ ⟨h₂, g, d, tk + 1, os⟩
  refine wpAny_bind (wpAny_setField_rec he₂ (by simp) fun h₃ he₃ hs₃ => ?_)
  replace hs₃ : Heap.SameBut e h₂ h₃ := hs₃
  replace he₃ : IsEnum h₃ e it ((i : Int) + 1) old := he₃
  have c3 : Heap.SameBut e h₁ h₃ := hs₂.trans hs₃
  have hsz : h₃.objs.size = hp.objs.size := c3.1.trans hs₁.1
  show wpAny _ _ (newTuple [.int i tk, x] >>= _) _ _ ⟨h₃, g, d, tk + 1, os⟩
  refine wpAny_bind (wpAny_newTuple ?_)
  generalize hh₄ : h₃.push { cls := .type "tuple", data := .seq #[.int i tk, x] } = h₄
  have up : ∀ b o, h₃.get? b = some o → h₄.get? b = some o := fun b o z => hh₄ ▸ Heap.get?_push_of_some _ z
  have ht₄ : h₄.get? hp.objs.size = some { cls := .type "tuple", data := .seq #[.int i tk, x] } := by rw [← hh₄, ← hsz]; exact Heap.get?_push_size _ rfl
  have hz₄ : h₄.objs.size = hp.objs.size + 1 := by rw [← hh₄, Heap.size_push, hsz]
  have he₄ : IsEnum h₄ e it ((i : Int) + 1) old := up _ _ he₃
  show wpAny _ _ (Builtin.SmallTypes.ownedTupleIsFree (.ref e) >>= _) _ _ ⟨h₄, g, d, tk + 1, os⟩
  rw [hsz]
  refine wpAny_bind ?_
  unfold Builtin.SmallTypes.ownedTupleIsFree
  refine wpAny_bind (wpAny_field he₄ rfl (x := .none) rfl (wpAny_pure ?_))
  simp only [if_true]
  refine wpAny_bind (wpAny_rule ?_)
  refine wpAny_bind (wpAny_field he₄ rfl (x := old) rfl ?_)
  refine wpAny_bind (wpAny_setField_rec he₄ (by simp) fun h₅ he₅ hs₅ => ?_)
  replace hs₅ : Heap.SameBut e h₄ h₅ := hs₅
  replace he₅ : IsEnum h₅ e it ((i : Int) + 1) x := he₅
  show wpAny _ _ (Builtin.SmallTypes.ownedTupleHandOut (.ref e) (.ref hp.objs.size) >>= _) _ _ ⟨h₅, g, d, tk + 1, os⟩
  refine wpAny_bind ?_
  unfold Builtin.SmallTypes.ownedTupleHandOut
  refine wpAny_bind (wpAny_setField_rec he₅ (by simp) fun h₆ he₆ hs₆ => ?_)
  replace hs₆ : Heap.SameBut e h₅ h₆ := hs₆
  replace he₆ : IsEnumOut h₆ e it ((i : Int) + 1) x hp.objs.size := he₆
  refine wpAny_setField_rec he₆ (by simp) fun h₇ he₇ hs₇ => ?_
  replace hs₇ : Heap.SameBut e h₆ h₇ := hs₇
  replace he₇ : IsEnumOut h₇ e it ((i : Int) + 1) x hp.objs.size := he₇
  have c7 : Heap.SameBut e h₄ h₇ := (hs₅.trans hs₆).trans hs₇
  have hel : e < hp.objs.size := Heap.lt_size he
  have keep : ∀ b o, b ≠ e → h₁.get? b = some o → h₇.get? b = some o := fun b o hb z => c7.extBut b o hb (up _ _ (c3.extBut b o hb z))
  refine wpAny_bind (wpAny_letGo (wpAny_pure ⟨_, rfl, hQ h₇ he₇ ?_ (c7.extBut _ _ (Nat.ne_of_gt hel) ht₄) (c7.1.trans hz₄) fun b o hbe hbi z => keep b o hbe (hs₁.extBut b o hbi z)⟩))
  obtain ⟨o, ho, r⟩ := hit₁
  exact ⟨o, keep _ _ (Ne.symm hne) ho, r⟩
theorem enumT_next {e it t : Addr} {i : Nat} {items : Array Value} {x old : Value} {Q : Option Value → Shared → Prop}
    (he : IsEnum s.heap e it i old) (hit : s.heap.IsTupleIter it t i) (ht : s.heap.IsTuple t items) (hx : items[i]? = some x) (hne : e ≠ it)
    (hQ : ∀ h', IsEnumOut h' e it ((i : Int) + 1) x s.heap.objs.size → h'.IsTupleIter it t (i + 1) →
      h'.get? s.heap.objs.size = some { cls := .type "tuple", data := .seq #[.int i s.toks, x] } → h'.objs.size = s.heap.objs.size + 1 →
      (∀ b o, b ≠ e → b ≠ it → s.heap.get? b = some o → h'.get? b = some o) → Q (some (.ref s.heap.objs.size)) { s with heap := h', toks := s.toks + 1 }) :
    wpAny (model prog w) A (pyNext (.ref e)) Q E s := by
  have hT : s.TypeIs (.ref e) "enumerate" := ⟨_, he, rfl⟩
  unfold pyNext
  exact wpAny_bind (wpAny_attempt (wpAny_callSpecial?_slot (name := Str.ofString "__next__") hT F.slot_enumerate_next
    (wpAny_call_entry F.slot_enumerate_next hT F.entry_enumerate_next (enumT_item he hit ht hx hne fun h' a b c d k => wpAny_pure (hQ h' a b c d k)) (F.args_enumerate_next_1 _))))
theorem enumT_end {e it t : Addr} {i : Nat} {items : Array Value} {old : Value} {Q : Option Value → Shared → Prop} (hh : A.handled = none)
    (he : IsEnum s.heap e it i old) (hit : s.heap.IsTupleIter it t i) (ht : s.heap.IsTuple t items) (hx : items[i]? = none)
    (hQ : ∀ h', Heap.ExtBut it s.heap h' → Q none { s with heap := h' }) : wpAny (model prog w) A (pyNext (.ref e)) Q E s := by
  have hT : s.TypeIs (.ref e) "enumerate" := ⟨_, he, rfl⟩
  unfold pyNext
  refine wpAny_bind (wpAny_attempt (wpAny_callSpecial?_slot (name := Str.ofString "__next__") hT F.slot_enumerate_next
    (wpAny_call_entry F.slot_enumerate_next hT F.entry_enumerate_next ?_ (F.args_enumerate_next_1 _))))
  show wpAny _ _ (field (.ref e) 2 >>= _) _ _ _
  refine wpAny_bind (wpAny_field he rfl (x := .ref it) rfl ?_)
  refine wpAny_bind (nextT_end hh hit ht hx fun h' x he' ⟨o, ho, hc⟩ => ?_)
  exact wpAny_bind (wpAny_isInstance (T := "StopIteration") (b := true) ⟨o, ho, hc⟩ isSubtype_stop (wpAny_pure (hQ _ he')))
end
end
-- L9
section
open PyProof.V PySem.Spec
open LCg (NsObj lst Off3 Off1 ns_obj)
section
variable {prog : Program} {w : World} {A : Around} {E : Value → Shared → Prop} {s : Shared} {env : Env} {h₀ : Heap}
/-- the block of a comprehension without cells of its own, its loop left open -/
theorem lc_block0 {elt t0 i0 : Expr} {ifs0 : List Expr} {rest : List Comprehension} {scope : Scope} {cl : List (Str × Addr)} {pos : Pos} {L I : Addr} {m : Str → Option Value} {Lg : Led} {RR : Value → Addr → Result → Shared → Prop}
    (hcell : ∀ y ∈ scope.names, y.2 ≠ .cell) (hkind : scope.kind = .function) (F : Fr h₀ L s.heap m) (N : News h₀ L s.heap Lg)
    (self : ∀ (s' : Shared) (Q' E' : Value → Shared → Prop), (∀ b o, s.heap.get? b = some o → s'.heap.get? b = some o) → Q' (.ref I) s' → wpAny (model prog w) A (pyIter (.ref I)) Q' E' s')
    (loop : ∀ C D h tk oC mC, NsObj oC mC → Fr h₀ L h m → News h₀ L h ((C, oC) :: (D, lst []) :: Lg) → (∀ b o, s.heap.get? b = some o → h.get? b = some o) → (∀ b, b < s.heap.objs.size → b ≠ C ∧ b ≠ D) → C ≠ D →
      codeAny (model prog w) A (.compLoop (.ListComp elt (⟨t0, i0, ifs0, 0⟩ :: rest) scope pos) 0 (.ref I) (.ref D) (compEnvC scope cl C env)) (RR (.ref D) C) { s with heap := h, toks := tk }) :
    wpAny (model prog w) A (newList []) (fun acc s₃ => wpAny (model prog w) A (newFunctionEnv scope env.globals cl [] env.qual none .none (some env)) (fun cenv s₄ =>
      codeAny (model prog w) A (.compStart (.ListComp elt (⟨t0, i0, ifs0, 0⟩ :: rest) scope pos) 0 (.ref I) acc { cenv with scope := relabel scope env }) (RR acc cenv.locals) s₄) E s₃) E s := by
  refine wpAny_newObj_type (wpAny_newFunctionEnv hcell (by intro y hy; simp at hy) (fun h₁ hns₁ hsb₁ => ?_) hkind)
  dsimp only at hns₁ hsb₁ ⊢
  generalize hH2 : s.heap.push { cls := .type "list", dict := none, data := .seq ([] : List Value).toArray } = H2 at hns₁ hsb₁ ⊢
  have hC : H2.objs.size = s.heap.objs.size + 1 := by rw [← hH2, Heap.size_push]
  have hDC : s.heap.objs.size ≠ H2.objs.size := by rw [hC]; exact Nat.ne_of_lt (Nat.lt_succ_self _)
  have below : ∀ b, b < s.heap.objs.size → b ≠ H2.objs.size ∧ b ≠ s.heap.objs.size := fun b hb => ⟨by rw [hC]; exact Nat.ne_of_lt (Nat.lt_succ_of_lt hb), Nat.ne_of_lt hb⟩
  have old : ∀ b o, s.heap.get? b = some o → h₁.get? b = some o := fun b o e => hsb₁.extBut b o (below b (Heap.lt_size e)).1 (Heap.get?_push_of_some _ (hH2 ▸ Heap.get?_push_of_some _ e))
  have hacc : h₁.get? s.heap.objs.size = some (lst []) := hsb₁.extBut _ _ hDC (Heap.get?_push_of_some _ (hH2 ▸ Heap.get?_push_size _ rfl))
  have fresh₀ : ∀ a, s.heap.objs.size ≤ a → h₀.get? a = none := fun a ha => by
    cases e : h₀.get? a with
    | none => rfl
    | some o' => exact absurd (Heap.lt_size (F.keep a o' e)) (Nat.not_lt.mpr ha)
  obtain ⟨oC, heC, hoC⟩ := ns_obj hns₁
  have N₁ : News h₀ L h₁ ((H2.objs.size, oC) :: (s.heap.objs.size, lst []) :: Lg) := by
    intro p hp
    rcases List.mem_cons.mp hp with rfl | hp
    · exact ⟨heC, Ne.symm (below L F.ns.lt).1, fresh₀ _ (by rw [hC]; exact Nat.le_succ _)⟩
    · rcases List.mem_cons.mp hp with rfl | hp
      · exact ⟨hacc, Ne.symm (below L F.ns.lt).2, fresh₀ _ (Nat.le_refl _)⟩
      · exact ⟨old _ _ (N p hp).1, (N p hp).2⟩
  have lp := loop H2.objs.size s.heap.objs.size h₁ (s.toks + ([] : List (Str × Value)).length) oC _ hoC (F.keeps old) N₁ old below (Ne.symm hDC)
  exact codeAny_compStart_list lp (self _ _ _ old lp)
theorem asg_pair0 {cenv : Env} {x x₂ : Str} {px px₂ tp : Pos} {k : Nat} {C t : Addr} {v₁ v₂ : Value} {s₁ : Shared} (hh : A.handled = none) (hL : cenv.locals = C) (hx : cenv.kindOf x = some .local) (hx₂ : cenv.kindOf x₂ = some .local) (hxx : x ≠ x₂)
    (hp : (cenv.scope.kind == .class || (cenv.scope.kind == .module && cenv.locals != cenv.globals)) = false) (ht : IsTup s₁.heap t #[v₁, v₂]) :
    AsgAt prog w A cenv (.Tuple [.Name x px, .Name x₂ px₂] k tp) C (fun _ m => m x = some v₁ ∧ m x₂ = some v₂) (fun _ => True) (.ref t) s₁ := by
  subst hL
  intro Q' E mC hn _ h
  refine assign_Tuple_tuple hh ht rfl rfl fun h₅ he => ?_
  have he' : ∀ b o, s₁.heap.get? b = some o → h₅.get? b = some o := fun b o e => he b o (Nat.ne_of_lt (Heap.lt_size e)) e
  refine assignInOrder_cons (wpAny_assign_Name (wpAny_storeName_local hx (hn.at' fun o e => he' _ o e) (fun h₆ hn₆ hs₆ => ?_) hp))
  refine assignInOrder_cons (wpAny_assign_Name (wpAny_storeName_local hx₂ hn₆ (fun h₃ hn₃ hs₃ => ?_) hp))
  refine assignInOrder_nil ?_
  exact h h₃ _ _ hn₃ (by simp [hxx]) trivial fun b o hb e => hs₃.extBut b o hb (hs₆.extBut b o hb (he' b o e))
end
namespace Clcenum
noncomputable def Pq (prog : Program) (w : World) (A : Around) (E : Value → Shared → Prop) (s : Shared) (env : Env) (h₀ : Heap) (elt : Expr) (iter : Expr) (ifs : List Expr) (x₁ : Str) (x₂ : Str) (p₁ : Pos) (p₂ : Pos) (tp : Pos) (kk : Nat) (scope : Scope) (cl : List (Str × Addr)) (pos : Pos) (L : Addr) (e : Addr) (it : Addr) (t : Addr) (m : Str → Option Value) (vs : List Value) (Lg : Led) (use : Option (Value → Sem Unit)) (Q : Value → Shared → Prop) (Inv : Nat → List Value → Prop) : Prop := ∀ (h1 : (relabel scope env).names.lookup x₁ = some .local) (h2 : (relabel scope env).names.lookup x₂ = some .local) (hxx : x₁ ≠ x₂) (hcell : ∀ y ∈ scope.names, y.2 ≠ .cell) (hkind : scope.kind = .function) (hh : A.handled = none) (he : IsEnum s.heap e it 0 .none) (hit : s.heap.IsTupleIter it t 0) (F : Fr h₀ L s.heap m) (N : News h₀ L s.heap Lg) (ht : (t, tupO vs) ∈ Lg) (h0 : Inv 0 []) (hei : e ≠ it) (heL : L ≠ e) (hiL : L ≠ it) (he₀ : h₀.get? e = none) (hi₀ : h₀.get? it = none) (offe : ∀ p ∈ Lg, p.1 ≠ e) (offi : ∀ p ∈ Lg, p.1 ≠ it) (turn : ∀ i v zs h tk ti C D oE oI oC mC E', vs[i]? = some v → Inv i zs → NsObj oC mC → mC x₁ = some (.int i ti) → mC x₂ = some v → Fr h₀ L h m → News h₀ L h ((e, oE) :: (C, oC) :: (D, lst zs) :: (it, oI) :: Lg) → Off3 e C D ((it, oI) :: Lg) → ((@Ne Nat e C) ∧ (@Ne Nat e D) ∧ (@Ne Nat C D)) →
      Emit prog w A (compEnvC scope cl C env) elt ifs (.ref D) E' { s with heap := h, toks := tk } (CEnd h₀ L m { s with heap := h, toks := tk } e oE C D id (fun _ => (it, oI) :: Lg) (fun _ => True) (Inv (i + 1)))) (hRR : LcRR h₀ L m s id (fun _ => Lg) (Inv vs.length) (fun acc C => compPost (model prog w) A E use Q acc C)),
    LcAt prog w A E env (.ListComp elt [⟨.Tuple [.Name x₁ p₁, .Name x₂ p₂] kk tp, iter, ifs, 0⟩] scope pos) scope cl use Q (.ref e) s
noncomputable abbrev Tq : Type := (((((Program × World) × (Around × (Value → Shared → Prop))) × ((Shared × Env) × (Heap × Expr))) × (((Expr × (List Expr)) × (Str × Str)) × ((Pos × Pos) × Pos))) × ((((Nat × Scope) × ((List (Str × Addr)) × Pos)) × ((Addr × Addr) × Addr)) × (((Addr × (Str → Option Value)) × ((List Value) × Led)) × (((Option (Value → Sem Unit)) × (Value → Shared → Prop)) × (Nat → List Value → Prop)))))
theorem exq : ∃ t : Tq, Pq t.1.1.1.1.1 t.1.1.1.1.2 t.1.1.1.2.1 t.1.1.1.2.2 t.1.1.2.1.1 t.1.1.2.1.2 t.1.1.2.2.1 t.1.1.2.2.2 t.1.2.1.1.1 t.1.2.1.1.2 t.1.2.1.2.1 t.1.2.1.2.2 t.1.2.2.1.1 t.1.2.2.1.2 t.1.2.2.2 t.2.1.1.1.1 t.2.1.1.1.2 t.2.1.1.2.1 t.2.1.1.2.2 t.2.1.2.1.1 t.2.1.2.1.2 t.2.1.2.2 t.2.2.1.1.1 t.2.2.1.1.2 t.2.2.1.2.1 t.2.2.1.2.2 t.2.2.2.1.1 t.2.2.2.1.2 t.2.2.2.2 → ∀ t : Tq, Pq t.1.1.1.1.1 t.1.1.1.1.2 t.1.1.1.2.1 t.1.1.1.2.2 t.1.1.2.1.1 t.1.1.2.1.2 t.1.1.2.2.1 t.1.1.2.2.2 t.1.2.1.1.1 t.1.2.1.1.2 t.1.2.1.2.1 t.1.2.1.2.2 t.1.2.2.1.1 t.1.2.2.1.2 t.1.2.2.2 t.2.1.1.1.1 t.2.1.1.1.2 t.2.1.1.2.1 t.2.1.1.2.2 t.2.1.2.1.1 t.2.1.2.1.2 t.2.1.2.2 t.2.2.1.1.1 t.2.2.1.1.2 t.2.2.1.2.1 t.2.2.1.2.2 t.2.2.2.1.1 t.2.2.2.1.2 t.2.2.2.2 := dk (α := Tq) ((((((default, aWorld 0), (({} : Around), (fun _ _ => True))), ((({} : Shared), default), (default, default))), (((default, default), (default, default)), ((default, default), default))), ((((default, default), (default, default)), ((default, default), default)), (((default, (fun _ => default)), (default, default)), ((default, (fun _ _ => True)), (fun _ _ => True)))))) _
noncomputable def cq : Tq := Classical.choose exq
@[irreducible] noncomputable def prog : Program := cq.1.1.1.1.1
@[irreducible] noncomputable def w : World := cq.1.1.1.1.2
@[irreducible] noncomputable def A : Around := cq.1.1.1.2.1
@[irreducible] noncomputable def E : Value → Shared → Prop := cq.1.1.1.2.2
@[irreducible] noncomputable def s : Shared := cq.1.1.2.1.1
@[irreducible] noncomputable def env : Env := cq.1.1.2.1.2
@[irreducible] noncomputable def h₀ : Heap := cq.1.1.2.2.1
@[irreducible] noncomputable def elt : Expr := cq.1.1.2.2.2
@[irreducible] noncomputable def iter : Expr := cq.1.2.1.1.1
@[irreducible] noncomputable def ifs : List Expr := cq.1.2.1.1.2
@[irreducible] noncomputable def x₁ : Str := cq.1.2.1.2.1
@[irreducible] noncomputable def x₂ : Str := cq.1.2.1.2.2
@[irreducible] noncomputable def p₁ : Pos := cq.1.2.2.1.1
@[irreducible] noncomputable def p₂ : Pos := cq.1.2.2.1.2
@[irreducible] noncomputable def tp : Pos := cq.1.2.2.2
@[irreducible] noncomputable def kk : Nat := cq.2.1.1.1.1
@[irreducible] noncomputable def scope : Scope := cq.2.1.1.1.2
@[irreducible] noncomputable def cl : List (Str × Addr) := cq.2.1.1.2.1
@[irreducible] noncomputable def pos : Pos := cq.2.1.1.2.2
@[irreducible] noncomputable def L : Addr := cq.2.1.2.1.1
@[irreducible] noncomputable def e : Addr := cq.2.1.2.1.2
@[irreducible] noncomputable def it : Addr := cq.2.1.2.2
@[irreducible] noncomputable def t : Addr := cq.2.2.1.1.1
@[irreducible] noncomputable def m : Str → Option Value := cq.2.2.1.1.2
@[irreducible] noncomputable def vs : List Value := cq.2.2.1.2.1
@[irreducible] noncomputable def Lg : Led := cq.2.2.1.2.2
@[irreducible] noncomputable def use : Option (Value → Sem Unit) := cq.2.2.2.1.1
@[irreducible] noncomputable def Q : Value → Shared → Prop := cq.2.2.2.1.2
@[irreducible] noncomputable def Inv : Nat → List Value → Prop := cq.2.2.2.2
theorem coreq : Pq prog w A E s env h₀ elt iter ifs x₁ x₂ p₁ p₂ tp kk scope cl pos L e it t m vs Lg use Q Inv := by
  unfold Pq
  intro h1 h2 hxx hcell hkind hh he hit F N ht h0 hei heL hiL he₀ hi₀ offe offi turn hRR
  obtain ⟨oi, hoi, roi⟩ := id hit
  refine wpAny_pyIter_enum he ?_
  refine lc_block0 hcell hkind F N (fun s' Q' E' k q => wpAny_pyIter_enum (k _ _ he) q) ?_
  intro C D h tk oC mC hC F₁ N₁ k₁ below hCD
  have hel := Heap.lt_size he
  have hil := Heap.lt_size hoi
  have hCe := below e hel
  have hCi := below it hil
  refine loop1 (fun k s' => ∃ h' tk' i zs oC mC old, s' = { s with heap := h', toks := tk' } ∧ IsEnum h' e it ((i : Nat) : Int) old ∧ h'.IsTupleIter it t i ∧ Fr h₀ L h' m ∧ NsObj oC mC ∧ News h₀ L h' ((C, oC) :: (D, lst zs) :: Lg) ∧ Inv i zs ∧ i ≤ vs.length ∧ k = vs.length + 1 - i) ?_ (vs.length + 1) _
    ⟨h, tk, 0, [], oC, mC, .none, rfl, k₁ _ _ he, ⟨oi, k₁ _ _ hoi, roi⟩, F₁, hC, N₁, h0, Nat.zero_le _, rfl⟩
  rintro k s' ⟨h', tk', i, zs, oC', mC', old, rfl, he', hit', F', hC', N', hJ, hi, rfl⟩
  have hC₀ := (N' _ (.head _)).2
  have hD₀ := (N' _ (.tail _ (.head _))).2
  have hmt := N' _ (.tail _ (.tail _ ht))
  have offD : ∀ p ∈ Lg, p.1 ≠ D := fun p hp => (below _ (Heap.lt_size (N p hp).1)).2
  have offC : ∀ p ∈ (D, lst zs) :: Lg, p.1 ≠ C := fun p hp => by
    rcases List.mem_cons.mp hp with rfl | hp
    · exact Ne.symm hCD
    · exact (below _ (Heap.lt_size (N p hp).1)).1
  have hT : h'.IsTuple t vs.toArray := ⟨_, hmt.1, rfl, _, rfl⟩
  have below' : ∀ p ∈ (C, oC') :: (D, lst zs) :: Lg, p.1 ≠ e ∧ p.1 ≠ it := by
    intro p hp
    rcases List.mem_cons.mp hp with rfl | hp
    · exact ⟨Ne.symm hCe.1, Ne.symm hCi.1⟩
    · rcases List.mem_cons.mp hp with rfl | hp
      · exact ⟨Ne.symm hCe.2, Ne.symm hCi.2⟩
      · exact ⟨offe p hp, offi p hp⟩
  have keepFN : ∀ h₁ : Heap, (∀ b o, b ≠ e → b ≠ it → h'.get? b = some o → h₁.get? b = some o) → Fr h₀ L h₁ m ∧ News h₀ L h₁ ((C, oC') :: (D, lst zs) :: Lg) := fun h₁ k =>
    ⟨⟨F'.ns.at' fun o z => k _ o heL hiL z, fun b o z => k b o (fun q => by rw [q, he₀] at z; cases z) (fun q => by rw [q, hi₀] at z; cases z) (F'.keep b o z), F'.above⟩,
     fun p hp => ⟨k _ _ (below' p hp).1 (below' p hp).2 (N' p hp).1, (N' p hp).2⟩⟩
  by_cases hlt : i < vs.length
  · have hx : vs.toArray[i]? = some vs[i] := by simp [hlt]
    have hel' := Heap.lt_size he'
    have hil' : it < h'.objs.size := by obtain ⟨o, ho, _⟩ := hit'; exact Heap.lt_size ho
    refine enumT_next he' hit' hT hx hei fun h₁ heo hit₁ ht₁ hz₁ hk₁ => ?_
    refine wpAny_letOwnedTupleGo_enum heo fun h₂ he₂ hs₂ => ?_
    replace hs₂ : Heap.SameBut e h₁ h₂ := hs₂
    have k₂ : ∀ b o, b ≠ e → b ≠ it → h'.get? b = some o → h₂.get? b = some o := fun b o a c z => hs₂.extBut b o a (hk₁ b o a c z)
    obtain ⟨F₂, N₂⟩ := keepFN h₂ k₂
    have ht₂ : IsTup h₂ h'.objs.size #[.int i tk', vs[i]] := ⟨_, hs₂.extBut _ _ (Nat.ne_of_gt hel') ht₁, rfl, _, rfl⟩
    obtain ⟨o₁, ho₁, ro₁⟩ := hit₁
    have hit₂ : h₂.get? it = some o₁ := hs₂.extBut _ _ (Ne.symm hei) ho₁
    have a0 : AsgAt prog w A (compEnvC scope cl C env) (.Tuple [.Name x₁ p₁, .Name x₂ p₂] kk tp) C (fun _ m => m x₁ = some (.int i tk') ∧ m x₂ = some vs[i]) (fun _ => True) (.ref h'.objs.size) { s with heap := h₂, toks := tk' + 1 } := asg_pair0 hh rfl h1 h2 hxx (by simp [compEnvC, relabel, hkind]) ht₂
    refine a0 _ _ _ (hC'.ns (N₂ _ (.head _)).1) trivial fun h₃ tk₃ mC₃ hn₃ hB _ hk₃ => ?_
    obtain ⟨oC₃, hoC₃, hC₃⟩ := ns_obj hn₃
    have k₃ : ∀ p ∈ (D, lst zs) :: Lg, h₃.get? p.1 = some p.2 := fun p hp => hk₃ _ _ (offC p hp) (N₂ p (.tail _ hp)).1
    have F₃ : Fr h₀ L h₃ m := ⟨F₂.ns.at' fun o z => hk₃ _ o (Ne.symm hC₀.1) z, fun b o z => hk₃ b o (fun q => by rw [q, hC₀.2] at z; cases z) (F₂.keep b o z), F₂.above⟩
    have N₃ : News h₀ L h₃ ((e, ({ cls := .type "enumerate", dict := none, data := .fields #[.none, .bool false, .ref it, rawInt ((i : Int) + 1), .none, vs[i]], slots := #[] } : Obj)) :: (C, oC₃) :: (D, lst zs) :: (it, o₁) :: Lg) := by
      intro p hp
      rcases List.mem_cons.mp hp with rfl | hp
      · exact ⟨hk₃ _ _ hCe.1 he₂, Ne.symm heL, he₀⟩
      · rcases List.mem_cons.mp hp with rfl | hp
        · exact ⟨hoC₃, hC₀⟩
        · rcases List.mem_cons.mp hp with rfl | hp
          · exact ⟨k₃ _ (.head _), hD₀⟩
          · rcases List.mem_cons.mp hp with rfl | hp
            · exact ⟨hk₃ _ _ hCi.1 hit₂, Ne.symm hiL, hi₀⟩
            · exact ⟨k₃ _ (.tail _ hp), (N₂ p (.tail _ (.tail _ hp))).2⟩
    have off₃ : Off3 e C D ((it, o₁) :: Lg) := ⟨⟨Ne.symm hei, hCi.1, hCi.2⟩, LCg.Off3.of fun p hp => ⟨offe p hp, offC p (.tail _ hp), offD p hp⟩⟩
    refine Emit.mono (fun s₄ h₄ => ?_) (turn i vs[i] zs h₃ tk₃ tk' C D _ o₁ oC₃ mC₃ _ (by simp [hlt]) hJ hC₃ hB.1 hB.2 F₃ N₃ off₃ ⟨hCe.1, hCe.2, hCD⟩)
    obtain ⟨zs', h₄, tk₄, oC₄, mC₄, rfl, F₄, ⟨hC₄, _⟩, N₄, _, hJ₄⟩ := h₄
    refine ⟨vs.length + 1 - (i + 1), by omega, h₄, tk₄, i + 1, zs', oC₄, mC₄, vs[i], rfl, ?_, ⟨o₁, (N₄ _ (.tail _ (.tail _ (.tail _ (.head _))))).1, ro₁⟩, F₄, hC₄, fun p hp => ?_, hJ₄, hlt, rfl⟩
    · have := (N₄ _ (.head _)).1
      push_cast
      exact this
    · rcases List.mem_cons.mp hp with rfl | hp
      · exact N₄ _ (.tail _ (.head _))
      · rcases List.mem_cons.mp hp with rfl | hp
        · exact N₄ _ (.tail _ (.tail _ (.head _)))
        · exact N₄ p (.tail _ (.tail _ (.tail _ (.tail _ hp))))
  · obtain rfl : i = vs.length := Nat.le_antisymm hi (Nat.not_lt.mp hlt)
    refine enumT_end hh he' hit' hT (by simp) fun h₁ hk₁ => ?_
    obtain ⟨F₂, N₂⟩ := keepFN h₁ (fun b o a c z => hk₁ b o c z)
    have o1 : ∀ {l : Led}, (∀ p ∈ l, p.1 ≠ D) → Off1 D l := by
      intro l
      induction l with
      | nil => intro _; trivial
      | cons q r ih => intro hq; exact ⟨hq q (.head _), ih fun p hp => hq p (.tail _ hp)⟩
    exact hRR D C h₁ tk' zs mC' hJ (hC'.ns (N₂ _ (.head _)).1) F₂ (fun p hp => N₂ p (.tail _ hp)) (o1 offD) hC₀.2 hC₀.1 (Ne.symm hCD) fun p hp => offC p (.tail _ hp)
theorem allq (prog : Program) (w : World) (A : Around) (E : Value → Shared → Prop) (s : Shared) (env : Env) (h₀ : Heap) (elt : Expr) (iter : Expr) (ifs : List Expr) (x₁ : Str) (x₂ : Str) (p₁ : Pos) (p₂ : Pos) (tp : Pos) (kk : Nat) (scope : Scope) (cl : List (Str × Addr)) (pos : Pos) (L : Addr) (e : Addr) (it : Addr) (t : Addr) (m : Str → Option Value) (vs : List Value) (Lg : Led) (use : Option (Value → Sem Unit)) (Q : Value → Shared → Prop) (Inv : Nat → List Value → Prop) : Pq prog w A E s env h₀ elt iter ifs x₁ x₂ p₁ p₂ tp kk scope cl pos L e it t m vs Lg use Q Inv := by
  with_unfolding_all exact Classical.choose_spec exq coreq (((((prog, w), (A, E)), ((s, env), (h₀, elt))), (((iter, ifs), (x₁, x₂)), ((p₁, p₂), tp))), ((((kk, scope), (cl, pos)), ((L, e), it)), (((t, m), (vs, Lg)), ((use, Q), Inv))))
end Clcenum
section
variable {prog : Program} {w : World} {A : Around} {E : Value → Shared → Prop} {s : Shared} {env : Env} {h₀ : Heap}
/-- one clause, a pair, over enumerate of a tuple -/
theorem lc_enum {elt iter : Expr} {ifs : List Expr} {x₁ x₂ : Str} {p₁ p₂ tp : Pos} {kk : Nat} {scope : Scope} {cl : List (Str × Addr)} {pos : Pos} {L e it t : Addr} {m : Str → Option Value} {vs : List Value} {Lg : Led} {use : Option (Value → Sem Unit)} {Q : Value → Shared → Prop}
    (Inv : Nat → List Value → Prop)
    (h1 : (relabel scope env).names.lookup x₁ = some .local) (h2 : (relabel scope env).names.lookup x₂ = some .local) (hxx : x₁ ≠ x₂) (hcell : ∀ y ∈ scope.names, y.2 ≠ .cell) (hkind : scope.kind = .function)
    (hh : A.handled = none) (he : IsEnum s.heap e it 0 .none) (hit : s.heap.IsTupleIter it t 0) (F : Fr h₀ L s.heap m) (N : News h₀ L s.heap Lg) (ht : (t, tupO vs) ∈ Lg) (h0 : Inv 0 [])
    (hei : e ≠ it) (heL : L ≠ e) (hiL : L ≠ it) (he₀ : h₀.get? e = none) (hi₀ : h₀.get? it = none) (offe : ∀ p ∈ Lg, p.1 ≠ e) (offi : ∀ p ∈ Lg, p.1 ≠ it)
    (turn : ∀ i v zs h tk ti C D oE oI oC mC E', vs[i]? = some v → Inv i zs → NsObj oC mC → mC x₁ = some (.int i ti) → mC x₂ = some v → Fr h₀ L h m → News h₀ L h ((e, oE) :: (C, oC) :: (D, lst zs) :: (it, oI) :: Lg) → Off3 e C D ((it, oI) :: Lg) → ((@Ne Nat e C) ∧ (@Ne Nat e D) ∧ (@Ne Nat C D)) →
      Emit prog w A (compEnvC scope cl C env) elt ifs (.ref D) E' { s with heap := h, toks := tk } (CEnd h₀ L m { s with heap := h, toks := tk } e oE C D id (fun _ => (it, oI) :: Lg) (fun _ => True) (Inv (i + 1))))
    (hRR : LcRR h₀ L m s id (fun _ => Lg) (Inv vs.length) (fun acc C => compPost (model prog w) A E use Q acc C)) :
    LcAt prog w A E env (.ListComp elt [⟨.Tuple [.Name x₁ p₁, .Name x₂ p₂] kk tp, iter, ifs, 0⟩] scope pos) scope cl use Q (.ref e) s :=
  Clcenum.allq prog w A E s env h₀ elt iter ifs x₁ x₂ p₁ p₂ tp kk scope cl pos L e it t m vs Lg use Q Inv h1 h2 hxx hcell hkind hh he hit F N ht h0 hei heL hiL he₀ hi₀ offe offi turn hRR
end
end
-- L10
section
open PyProof.V PySem.Spec
open LCg (NsObj lst Off3 Off1 ns_obj)
section
variable {prog : Program} {w : World} {A : Around} {E : Value → Shared → Prop} {s : Shared} {env : Env} {h₀ : Heap}
theorem newEnv_cells {scope : Scope} {cl : List (Str × Addr)} {Q : Env → Shared → Prop}
    (hQ : Q { scope, locals := s.heap.objs.size, globals := env.globals, cells := cellsFrom (s.heap.objs.size + 1) scope.names cl, qual := env.qual, func := none, code := env.code, frame := env.frame, builtins := env.builtins }
      { s with heap := pushCells (s.heap.push { cls := .type "dict", data := .dict #[] }) scope.names }) :
    wpAny (model prog w) A (newFunctionEnv scope env.globals cl [] env.qual none .none (some env)) Q E s := by
  simp only [newFunctionEnv, Option.isSome_some, if_true]
  refine wpAny_bind (wpAny_alloc ?_)
  refine wpAny_bind (wpAny_layCells _ (fun name kind cells => by cases hkc : kind == NameKind.cell <;> simp [hkc]) _ _ _ _ ?_)
  rw [show ({ s with heap := s.heap.push { cls := .type "dict", data := .dict #[] } } : Shared).heap.objs.size = s.heap.objs.size + 1 from Heap.size_push ..]
  rw [List.forIn_nil]
  exact wpAny_bind (wpAny_pure (wpAny_pure hQ))
end
namespace Clccell
noncomputable def Pq (prog : Program) (w : World) (A : Around) (E : Value → Shared → Prop) (s : Shared) (env : Env) (h₀ : Heap) (elt : Expr) (iter : Expr) (x : Str) (px : Pos) (scope : Scope) (cl : List (Str × Addr)) (pos : Pos) (L : Addr) (r : Addr) (m : Str → Option Value) (b₀ : Int) (t₀ : Tok) (u₀ : Tok) (v₀ : Tok) (n : Nat) (use : Option (Value → Sem Unit)) (Q : Value → Shared → Prop) (Lg : Led) (Inv : Nat → List Value → Prop) : Prop := ∀ (hx : (relabel scope env).names.lookup x = some .cell) (hkind : scope.kind = .function) (hcf : ∀ k, cellsFrom k scope.names cl = (x, k) :: cl) (hpc : ∀ h, pushCells h scope.names = h.push { cls := .type "cell", data := .cell none }) (hh : A.handled = none) (hr : IsRange s.heap r 0 b₀ 1 t₀ u₀ v₀) (hsmall : Builtin.Range.small 0 b₀ 1 = true) (hn : Builtin.Range.rangeSize 0 b₀ 1 = (n : Int)) (F : Fr h₀ L s.heap m) (N : News h₀ L s.heap Lg) (h0 : Inv 0 []) (turn : ∀ i t zs h tk I C c D oI oC oc mC E', i < n → Inv i zs → NsObj oC mC → oc.data = .cell (some (.int (0 + i) t)) → Fr h₀ L h m → News h₀ L h ((I, oI) :: (C, oC) :: (D, lst zs) :: (c, oc) :: Lg) → Off3 I C D ((c, oc) :: Lg) → ((@Ne Nat I C) ∧ (@Ne Nat I D) ∧ (@Ne Nat C D)) → (∀ p ∈ Lg, p.1 ≠ c) →
      Emit prog w A (compEnvC scope ((x, c) :: cl) C env) elt [] (.ref D) E' { s with heap := h, toks := tk } (CEnd h₀ L m { s with heap := h, toks := tk } I oI C D id (fun _ => (c, oc) :: Lg) (fun _ => True) (Inv (i + 1)))) (hRR : LcRR h₀ L m s id (fun _ => Lg) (Inv n) (fun acc C => compPost (model prog w) A E use Q acc C)),
    LcAt prog w A E env (.ListComp elt [⟨.Name x px, iter, [], 0⟩] scope pos) scope cl use Q (.ref r) s
noncomputable abbrev Tq : Type := (((((Program × World) × (Around × (Value → Shared → Prop))) × ((Shared × Env) × Heap)) × (((Expr × Expr) × Str) × ((Pos × Scope) × (List (Str × Addr))))) × ((((Pos × Addr) × (Addr × (Str → Option Value))) × ((Int × Tok) × Tok)) × (((Tok × Nat) × (Option (Value → Sem Unit))) × (((Value → Shared → Prop) × Led) × (Nat → List Value → Prop)))))
theorem exq : ∃ t : Tq, Pq t.1.1.1.1.1 t.1.1.1.1.2 t.1.1.1.2.1 t.1.1.1.2.2 t.1.1.2.1.1 t.1.1.2.1.2 t.1.1.2.2 t.1.2.1.1.1 t.1.2.1.1.2 t.1.2.1.2 t.1.2.2.1.1 t.1.2.2.1.2 t.1.2.2.2 t.2.1.1.1.1 t.2.1.1.1.2 t.2.1.1.2.1 t.2.1.1.2.2 t.2.1.2.1.1 t.2.1.2.1.2 t.2.1.2.2 t.2.2.1.1.1 t.2.2.1.1.2 t.2.2.1.2 t.2.2.2.1.1 t.2.2.2.1.2 t.2.2.2.2 → ∀ t : Tq, Pq t.1.1.1.1.1 t.1.1.1.1.2 t.1.1.1.2.1 t.1.1.1.2.2 t.1.1.2.1.1 t.1.1.2.1.2 t.1.1.2.2 t.1.2.1.1.1 t.1.2.1.1.2 t.1.2.1.2 t.1.2.2.1.1 t.1.2.2.1.2 t.1.2.2.2 t.2.1.1.1.1 t.2.1.1.1.2 t.2.1.1.2.1 t.2.1.1.2.2 t.2.1.2.1.1 t.2.1.2.1.2 t.2.1.2.2 t.2.2.1.1.1 t.2.2.1.1.2 t.2.2.1.2 t.2.2.2.1.1 t.2.2.2.1.2 t.2.2.2.2 := dk (α := Tq) ((((((default, aWorld 0), (({} : Around), (fun _ _ => True))), ((({} : Shared), default), default)), (((default, default), default), ((default, default), default))), ((((default, default), (default, (fun _ => default))), ((default, default), default)), (((default, default), default), (((fun _ _ => True), default), (fun _ _ => True)))))) _
noncomputable def cq : Tq := Classical.choose exq
@[irreducible] noncomputable def prog : Program := cq.1.1.1.1.1
@[irreducible] noncomputable def w : World := cq.1.1.1.1.2
@[irreducible] noncomputable def A : Around := cq.1.1.1.2.1
@[irreducible] noncomputable def E : Value → Shared → Prop := cq.1.1.1.2.2
@[irreducible] noncomputable def s : Shared := cq.1.1.2.1.1
@[irreducible] noncomputable def env : Env := cq.1.1.2.1.2
@[irreducible] noncomputable def h₀ : Heap := cq.1.1.2.2
@[irreducible] noncomputable def elt : Expr := cq.1.2.1.1.1
@[irreducible] noncomputable def iter : Expr := cq.1.2.1.1.2
@[irreducible] noncomputable def x : Str := cq.1.2.1.2
@[irreducible] noncomputable def px : Pos := cq.1.2.2.1.1
@[irreducible] noncomputable def scope : Scope := cq.1.2.2.1.2
@[irreducible] noncomputable def cl : List (Str × Addr) := cq.1.2.2.2
@[irreducible] noncomputable def pos : Pos := cq.2.1.1.1.1
@[irreducible] noncomputable def L : Addr := cq.2.1.1.1.2
@[irreducible] noncomputable def r : Addr := cq.2.1.1.2.1
@[irreducible] noncomputable def m : Str → Option Value := cq.2.1.1.2.2
@[irreducible] noncomputable def b₀ : Int := cq.2.1.2.1.1
@[irreducible] noncomputable def t₀ : Tok := cq.2.1.2.1.2
@[irreducible] noncomputable def u₀ : Tok := cq.2.1.2.2
@[irreducible] noncomputable def v₀ : Tok := cq.2.2.1.1.1
@[irreducible] noncomputable def n : Nat := cq.2.2.1.1.2
@[irreducible] noncomputable def use : Option (Value → Sem Unit) := cq.2.2.1.2
@[irreducible] noncomputable def Q : Value → Shared → Prop := cq.2.2.2.1.1
@[irreducible] noncomputable def Lg : Led := cq.2.2.2.1.2
@[irreducible] noncomputable def Inv : Nat → List Value → Prop := cq.2.2.2.2
theorem coreq : Pq prog w A E s env h₀ elt iter x px scope cl pos L r m b₀ t₀ u₀ v₀ n use Q Lg Inv := by
  unfold Pq
  intro hx hkind hcf hpc hh hr hsmall hn F N h0 turn hRR
  refine wpAny_pyIter_range hr hsmall ?_
  generalize hs1 : ({ s with heap := s.heap.push { cls := .type "range_iterator", data := .fields #[rawInt 0, rawInt (Builtin.Range.rangeSize 0 b₀ 1), rawInt 1] } } : Shared) = s1
  have hI : s1.heap.get? s.heap.objs.size = some { cls := .type "range_iterator", data := .fields #[rawInt 0, rawInt (Builtin.Range.rangeSize 0 b₀ 1), rawInt 1] } := by rw [← hs1]; exact Heap.get?_push_size _ rfl
  have hz1 : s1.heap.objs.size = s.heap.objs.size + 1 := by rw [← hs1]; exact Heap.size_push ..
  have k1 : ∀ b o, s.heap.get? b = some o → s1.heap.get? b = some o := fun b o e => by rw [← hs1]; exact Heap.get?_push_of_some _ e
  generalize hIn : s.heap.objs.size = I at hI hz1
  refine wpAny_newObj_type (newEnv_cells ?_)
  dsimp only
  rw [hcf, hpc]
  generalize hD : s1.heap.objs.size = D
  generalize hH2 : s1.heap.push { cls := .type "list", dict := none, data := .seq ([] : List Value).toArray } = H2
  generalize hC : H2.objs.size = C
  generalize hH3 : (H2.push { cls := .type "dict", data := .dict #[] }).push { cls := .type "cell", data := .cell none } = H3
  have eC : C = D + 1 := by rw [← hC, ← hH2, Heap.size_push, hD]
  have eD : D = I + 1 := by rw [← hD, hz1]
  have hLt : @LT.lt Nat _ L s.heap.objs.size := F.ns.lt
  rw [hIn] at hLt
  have up3 : ∀ b o, s1.heap.get? b = some o → H3.get? b = some o := fun b o e => by
    rw [← hH3]; exact Heap.get?_push_of_some _ (Heap.get?_push_of_some _ (hH2 ▸ Heap.get?_push_of_some _ e))
  have gD : H3.get? D = some (lst []) := by
    rw [← hH3]; refine Heap.get?_push_of_some _ (Heap.get?_push_of_some _ ?_); rw [← hH2, ← hD]; exact Heap.get?_push_size _ rfl
  have nC : H3.Ns C (fun _ => none) := by
    have z := (Heap.Ns.new H2 (.type "dict")).keeps (h' := H3) (fun b o e => by rw [← hH3]; exact Heap.get?_push_of_some _ e)
    rw [hC] at z; exact z
  have gc : H3.get? (C + 1) = some { cls := .type "cell", data := .cell none } := by
    have z := Heap.get?_push_size (H2.push { cls := .type "dict", data := .dict #[] }) (o := { cls := .type "cell", data := .cell none }) rfl
    rw [Heap.size_push, hC, hH3] at z; exact z
  have fresh₀ : ∀ a, I ≤ a → h₀.get? a = none := fun a ha => by
    cases e : h₀.get? a with
    | none => rfl
    | some o' => exact absurd (Heap.lt_size (F.keep a o' e)) (Nat.not_lt.mpr (by rw [hIn]; exact ha))
  have F3 : Fr h₀ L H3 m := F.keeps fun b o e => up3 b o (k1 b o e)
  have lt : ∀ p ∈ Lg, @LT.lt Nat _ p.1 I := fun p hp => hIn ▸ Heap.lt_size (N p hp).1
  obtain ⟨oC0, heC0, hoC0⟩ := ns_obj nC
  have nI : I ≠ L := Nat.ne_of_gt hLt
  have nD : D ≠ L := Nat.ne_of_gt (by omega)
  have nCL : C ≠ L := Nat.ne_of_gt (by omega)
  have ncL : C + 1 ≠ L := Nat.ne_of_gt (by omega)
  have dIC : I ≠ C := by omega
  have dID : I ≠ D := by omega
  have dIc : I ≠ C + 1 := by omega
  have dCD : C ≠ D := by omega
  have dCc : C ≠ C + 1 := by omega
  have dDc : D ≠ C + 1 := by omega
  have N3 : News h₀ L H3 ((C, oC0) :: (D, lst []) :: (C + 1, ({ cls := .type "cell", data := .cell none } : Obj)) :: Lg) := by
    intro p hp
    rcases List.mem_cons.mp hp with rfl | hp
    · exact ⟨heC0, nCL, fresh₀ _ (by omega)⟩
    · rcases List.mem_cons.mp hp with rfl | hp
      · exact ⟨gD, nD, fresh₀ _ (by omega)⟩
      · rcases List.mem_cons.mp hp with rfl | hp
        · exact ⟨gc, ncL, fresh₀ _ (by omega)⟩
        · exact ⟨up3 _ _ (k1 _ _ (N p hp).1), (N p hp).2⟩
  have W := LCg.range_walks (prog := prog) (w := w) (I := I) hh 0 n
  have st0 : IsRangeIter H3 I (0 + ((0 : Nat) : Int) * 1) ((n : Int) - ((0 : Nat) : Int)) 1 := by
    show H3.get? I = some _
    rw [up3 _ _ hI, hn]
    simp
  have loop : ∀ s₃ : Shared, s₃ = { s1 with heap := H3 } → codeAny (model prog w) A (.compLoop (.ListComp elt [⟨.Name x px, iter, [], 0⟩] scope pos) 0 (.ref I) (.ref D) (compEnvC scope ((x, C + 1) :: cl) C env)) (compPost (model prog w) A E use Q (.ref D) C) s₃ := by
    rintro s₃ rfl
    refine loop1 (fun k s' => ∃ h' tk i zs oC mC oc xv, s' = { s with heap := h', toks := tk } ∧ IsRangeIter h' I (0 + ((i : Nat) : Int) * 1) ((n : Int) - ((i : Nat) : Int)) 1 ∧ Fr h₀ L h' m ∧ NsObj oC mC ∧ oc.data = .cell xv ∧ News h₀ L h' ((C, oC) :: (D, lst zs) :: (C + 1, oc) :: Lg) ∧ Inv i zs ∧ i ≤ n ∧ k = n + 1 - i) ?_ (n + 1) _
      ⟨H3, s1.toks, 0, [], oC0, _, _, none, by rw [← hs1], st0, F3, hoC0, rfl, N3, h0, Nat.zero_le _, rfl⟩
    rintro k s' ⟨h', tk, i, zs, oC, mC, oc, xv, rfl, st, F', hC', hoc, N', hJ, hi, rfl⟩
    have next : ∀ h₁ : Heap, (∀ b o, b ∉ [I] → h'.get? b = some o → h₁.get? b = some o) → Fr h₀ L h₁ m ∧ News h₀ L h₁ ((C, oC) :: (D, lst zs) :: (C + 1, oc) :: Lg) := fun h₁ hk₁ =>
      ⟨⟨F'.ns.at' fun o e => hk₁ _ o (by simpa using Ne.symm nI) e, fun b o e => hk₁ b o (fun q => by rw [List.mem_singleton.mp q, fresh₀ I (Nat.le_refl _)] at e; cases e) (F'.keep b o e), F'.above⟩, fun p hp => ⟨hk₁ _ _ (fun q => by
        have q := List.mem_singleton.mp q
        rcases List.mem_cons.mp hp with rfl | hp
        · exact dIC q.symm
        · rcases List.mem_cons.mp hp with rfl | hp
          · exact dID q.symm
          · rcases List.mem_cons.mp hp with rfl | hp
            · exact dIc q.symm
            · exact Nat.ne_of_lt (lt p hp) q) (N' p hp).1, (N' p hp).2⟩⟩
    by_cases hlt : i < n
    · refine W.item i _ _ _ hlt st fun v h₁ tk₁ hP st₁ hk₁ => ?_
      obtain ⟨t, rfl⟩ := hP
      obtain ⟨F₁, N₁⟩ := next h₁ hk₁
      refine letGo_name (wpAny_assign_Name (wpAny_storeName_cell hkind hx (by show List.lookup x ((x, C + 1) :: cl) = some (C + 1); simp) ⟨oc, (N₁ _ (.tail _ (.tail _ (.head _)))).1, hoc⟩ fun h₂ hc₂ hs₂ => ?_))
      obtain ⟨oc₂, hoc₂, hdc₂⟩ := hc₂
      have hcm := (N₁ _ (.tail _ (.tail _ (.head _)))).2
      have st₂ : IsRangeIter h₂ I (0 + ((i + 1 : Nat) : Int) * 1) ((n : Int) - ((i + 1 : Nat) : Int)) 1 := hs₂.extBut I _ dIc st₁
      obtain ⟨oI, hoI, hst⟩ : ∃ o, h₂.get? I = some o ∧ ∀ h' : Heap, h'.get? I = some o → IsRangeIter h' I (0 + ((i + 1 : Nat) : Int) * 1) ((n : Int) - ((i + 1 : Nat) : Int)) 1 := ⟨_, st₂, fun _ e => e⟩
      have F₂ : Fr h₀ L h₂ m := F₁.change hs₂ hcm.1 hcm.2
      have N₂ : News h₀ L h₂ ((I, oI) :: (C, oC) :: (D, lst zs) :: (C + 1, oc₂) :: Lg) := by
        intro p hp
        rcases List.mem_cons.mp hp with rfl | hp
        · exact ⟨hoI, nI, fresh₀ I (Nat.le_refl _)⟩
        · rcases List.mem_cons.mp hp with rfl | hp
          · exact ⟨hs₂.extBut _ _ dCc (N₁ _ (.head _)).1, (N₁ _ (.head _)).2⟩
          · rcases List.mem_cons.mp hp with rfl | hp
            · exact ⟨hs₂.extBut _ _ dDc (N₁ _ (.tail _ (.head _))).1, (N₁ _ (.tail _ (.head _))).2⟩
            · rcases List.mem_cons.mp hp with rfl | hp
              · exact ⟨hoc₂, hcm⟩
              · have z := N₁ p (.tail _ (.tail _ (.tail _ hp)))
                exact ⟨hs₂.extBut _ _ (Nat.ne_of_lt (by have := lt p hp; omega)) z.1, z.2⟩
      have off : Off3 I C D ((C + 1, oc₂) :: Lg) := ⟨⟨Ne.symm dIc, Ne.symm dCc, Ne.symm dDc⟩, LCg.Off3.of fun p hp => by have := lt p hp; exact ⟨Nat.ne_of_lt (by omega), Nat.ne_of_lt (by omega), Nat.ne_of_lt (by omega)⟩⟩
      refine Emit.mono (fun s₄ h₄ => ?_) (turn i t zs h₂ tk₁ I C (C + 1) D oI oC oc₂ mC _ hlt hJ hC' hdc₂ F₂ N₂ off ⟨dIC, dID, dCD⟩ fun p hp => Nat.ne_of_lt (by have := lt p hp; omega))
      obtain ⟨zs', h₄, tk₄, oC₄, mC₄, rfl, F₄, ⟨hC₄, _⟩, N₄, _, hJ₄⟩ := h₄
      exact ⟨n + 1 - (i + 1), by omega, h₄, tk₄, i + 1, zs', oC₄, mC₄, oc₂, _, rfl, hst _ (N₄ _ (.head _)).1, F₄, hC₄, hdc₂, fun p hp => N₄ p (.tail _ hp), hJ₄, hlt, rfl⟩
    · obtain rfl : i = n := Nat.le_antisymm hi (Nat.not_lt.mp hlt)
      refine W.done _ _ _ st fun h₁ tk₁ hk₁ => ?_
      obtain ⟨F₁, N₁⟩ := next h₁ hk₁
      have o1 : ∀ {l : Led}, (∀ p ∈ l, p.1 ≠ D) → Off1 D l := by
        intro l
        induction l with
        | nil => intro _; trivial
        | cons q r ih => intro hq; exact ⟨hq q (.head _), ih fun p hp => hq p (.tail _ hp)⟩
      exact hRR D C h₁ tk₁ zs mC hJ (hC'.ns (N₁ _ (.head _)).1) F₁ (fun p hp => N₁ p (by
        rcases List.mem_cons.mp hp with rfl | hp
        · exact .tail _ (.head _)
        · exact .tail _ (.tail _ (.tail _ hp)))) (o1 fun p hp => Nat.ne_of_lt (by have := lt p hp; omega)) (fresh₀ C (by omega)) nCL (Ne.symm dCD) fun p hp => Nat.ne_of_lt (by have := lt p hp; omega)
  exact codeAny_compStart_list (loop _ rfl) (W.self 0 _ _ _ st0 (loop _ rfl))
theorem allq (prog : Program) (w : World) (A : Around) (E : Value → Shared → Prop) (s : Shared) (env : Env) (h₀ : Heap) (elt : Expr) (iter : Expr) (x : Str) (px : Pos) (scope : Scope) (cl : List (Str × Addr)) (pos : Pos) (L : Addr) (r : Addr) (m : Str → Option Value) (b₀ : Int) (t₀ : Tok) (u₀ : Tok) (v₀ : Tok) (n : Nat) (use : Option (Value → Sem Unit)) (Q : Value → Shared → Prop) (Lg : Led) (Inv : Nat → List Value → Prop) : Pq prog w A E s env h₀ elt iter x px scope cl pos L r m b₀ t₀ u₀ v₀ n use Q Lg Inv := by
  with_unfolding_all exact Classical.choose_spec exq coreq (((((prog, w), (A, E)), ((s, env), h₀)), (((elt, iter), x), ((px, scope), cl))), ((((pos, L), (r, m)), ((b₀, t₀), u₀)), (((v₀, n), use), ((Q, Lg), Inv))))
end Clccell
section
variable {prog : Program} {w : World} {A : Around} {E : Value → Shared → Prop} {s : Shared} {env : Env} {h₀ : Heap}
/-- one clause over a range from 0, its name a cell of the comprehension's own -/
theorem lc_cell {elt iter : Expr} {x : Str} {px : Pos} {scope : Scope} {cl : List (Str × Addr)} {pos : Pos} {L r : Addr} {m : Str → Option Value} {b₀ : Int} {t₀ u₀ v₀ : Tok} {n : Nat} {use : Option (Value → Sem Unit)} {Q : Value → Shared → Prop} {Lg : Led}
    (Inv : Nat → List Value → Prop)
    (hx : (relabel scope env).names.lookup x = some .cell) (hkind : scope.kind = .function) (hcf : ∀ k, cellsFrom k scope.names cl = (x, k) :: cl) (hpc : ∀ h, pushCells h scope.names = h.push { cls := .type "cell", data := .cell none })
    (hh : A.handled = none) (hr : IsRange s.heap r 0 b₀ 1 t₀ u₀ v₀) (hsmall : Builtin.Range.small 0 b₀ 1 = true) (hn : Builtin.Range.rangeSize 0 b₀ 1 = (n : Int)) (F : Fr h₀ L s.heap m) (N : News h₀ L s.heap Lg) (h0 : Inv 0 [])
    (turn : ∀ i t zs h tk I C c D oI oC oc mC E', i < n → Inv i zs → NsObj oC mC → oc.data = .cell (some (.int (0 + i) t)) → Fr h₀ L h m → News h₀ L h ((I, oI) :: (C, oC) :: (D, lst zs) :: (c, oc) :: Lg) → Off3 I C D ((c, oc) :: Lg) → ((@Ne Nat I C) ∧ (@Ne Nat I D) ∧ (@Ne Nat C D)) → (∀ p ∈ Lg, p.1 ≠ c) →
      Emit prog w A (compEnvC scope ((x, c) :: cl) C env) elt [] (.ref D) E' { s with heap := h, toks := tk } (CEnd h₀ L m { s with heap := h, toks := tk } I oI C D id (fun _ => (c, oc) :: Lg) (fun _ => True) (Inv (i + 1))))
    (hRR : LcRR h₀ L m s id (fun _ => Lg) (Inv n) (fun acc C => compPost (model prog w) A E use Q acc C)) :
    LcAt prog w A E env (.ListComp elt [⟨.Name x px, iter, [], 0⟩] scope pos) scope cl use Q (.ref r) s :=
  Clccell.allq prog w A E s env h₀ elt iter x px scope cl pos L r m b₀ t₀ u₀ v₀ n use Q Lg Inv hx hkind hcf hpc hh hr hsmall hn F N h0 turn hRR
end
end
-- LK
section
/-- a kind in the ledger: its pair, its Whitespace, its list -/
structure KRec where
  tup : Addr
  x : Addr
  dx : Addr
  nm : Addr
  ct : Addr
  lst : Addr
  oD : Obj
  oN : Obj
  oC : Obj
  sv : List Value
  ep : Nat
noncomputable def kr0 : KRec := ⟨0, 0, 0, 0, 0, 0, default, default, default, [], 0⟩
noncomputable def KRec.led (k : KRec) : Led := [(k.tup, tupO [.ref k.x, .ref k.lst]), (k.lst, listOf k.sv.toArray k.ep), (k.nm, k.oN), (k.ct, k.oC), (k.x, instObj 132 k.dx), (k.dx, k.oD)]
noncomputable def WsIs (P : Params) (cs : List Nat) (k : KRec) : Prop :=
  ∃ (X : Str) (tx tn tt tb k1 k2 k3 k4 k5 : Tok) (si : Bool) (vs : List Value), k.oD = wsDict P X tx (wsF cs).n (wsF cs).t tn tt k.nm si k1 k2 k3 k4 k5 ∧ k.oN = tupO [.ref k.ct, .int ((wsF cs).b : Int) tb] ∧ k.oC = tupO vs ∧ IntsAre vs (wsF cs).ns
inductive KsAre (P : Params) : List PK → List KRec → Prop
  | nil : KsAre P [] []
  | cons {pk : PK} {k : KRec} {pks : List PK} {ks : List KRec} : WsIs P pk.1 k → IntsAre k.sv pk.2 → KsAre P pks ks → KsAre P (pk :: pks) (k :: ks)
noncomputable def ledOf (ks : List KRec) : Led := ks.flatMap KRec.led
theorem ledOf_cons (k : KRec) (ks : List KRec) : ledOf (k :: ks) = k.led ++ ledOf ks := rfl
theorem ledOf_snoc (ks : List KRec) (k : KRec) : ledOf (ks ++ [k]) = ledOf ks ++ k.led := by simp [ledOf]
theorem ledOf_mem {ks : List KRec} {k : KRec} (h : k ∈ ks) : ∀ p ∈ k.led, p ∈ ledOf ks := fun p hp => List.mem_flatMap.mpr ⟨k, h, hp⟩
theorem KsAre.at {P : Params} {pks ks} (H : KsAre P pks ks) : ∀ {i : Nat} {k : KRec}, ks[i]? = some k → ∃ pk : PK, pks[i]? = some pk ∧ WsIs P pk.1 k ∧ IntsAre k.sv pk.2 := by
  induction H with
  | nil => intro i k h; cases h
  | cons a b c ih =>
    intro i k h
    cases i with
    | zero => cases Option.some.inj h; exact ⟨_, rfl, a, b⟩
    | succ i => exact ih h
theorem KsAre.length {P : Params} {pks ks} (H : KsAre P pks ks) : pks.length = ks.length := by
  induction H with
  | nil => rfl
  | cons a b c ih => exact congrArg Nat.succ ih
theorem KsAre.snoc {P : Params} {pks ks} (H : KsAre P pks ks) {pk : PK} {k : KRec} (a : WsIs P pk.1 k) (b : IntsAre k.sv pk.2) : KsAre P (pks ++ [pk]) (ks ++ [k]) := by
  induction H with
  | nil => exact .cons a b .nil
  | cons x y c ih => exact .cons x y ih
/-- the kinds whose Whitespace is equal to this one, in their order -/
noncomputable def sameK (cs : List Nat) : List PK → List KRec → List Value
  | pk :: pks, k :: ks => (if eqW cs pk.1 then [.ref k.tup] else []) ++ sameK cs pks ks
  | _, _ => []
/-- the first of them takes one more -/
noncomputable def addRec (cs : List Nat) (v : Value) : List PK → List KRec → List KRec
  | pk :: pks, k :: ks => if eqW cs pk.1 then { k with sv := k.sv ++ [v], ep := k.ep + 1 } :: ks else k :: addRec cs v pks ks
  | _, ks => ks
theorem same_nil {P : Params} {cs : List Nat} {pks ks} (H : KsAre P pks ks) : sameK cs pks ks = [] → ∀ s, addK cs s pks = pks ++ [(cs, [s])] := by
  induction H with
  | nil => intro _ _; rfl
  | @cons pk k pks ks a b c ih =>
    intro h s
    unfold sameK at h
    obtain ⟨h1, h2⟩ := List.append_eq_nil_iff.mp h
    by_cases he : eqW cs pk.1 = true
    · rw [if_pos he] at h1; cases h1
    · unfold addK; rw [if_neg he, ih h2 s]; rfl
/-- the first of the same: its place among the kinds -/
theorem same_first {P : Params} {cs : List Nat} {pks ks} (H : KsAre P pks ks) : ∀ {v vs}, sameK cs pks ks = v :: vs → ∀ (s : Int) (t : Tok),
    ∃ (pre post : List KRec) (k : KRec), ks = pre ++ k :: post ∧ v = .ref k.tup ∧ addRec cs (.int s t) pks ks = pre ++ { k with sv := k.sv ++ [.int s t], ep := k.ep + 1 } :: post ∧ KsAre P (addK cs s pks) (pre ++ { k with sv := k.sv ++ [.int s t], ep := k.ep + 1 } :: post) := by
  induction H with
  | nil => intro _ _ h; cases h
  | @cons pk k pks ks a b c ih =>
    intro v vs h s t
    unfold sameK at h
    unfold addRec addK
    by_cases he : eqW cs pk.1 = true
    · rw [if_pos he] at h
      rw [if_pos he, if_pos he]
      exact ⟨[], ks, k, rfl, (List.cons.inj h).1.symm, rfl, .cons a (ints_snoc b) c⟩
    · rw [if_neg he] at h
      rw [if_neg he, if_neg he]
      obtain ⟨pre, post, k', e1, e2, e3, e4⟩ := ih h s t
      exact ⟨k :: pre, post, k', congrArg (List.cons k) e1, e2, congrArg (List.cons k) e3, .cons a b e4⟩
theorem sameK_step {P : Params} {cs : List Nat} {pks ks} (H : KsAre P pks ks) : ∀ {i : Nat} {k : KRec} {pk : PK}, ks[i]? = some k → pks[i]? = some pk →
    sameK cs (pks.take (i + 1)) (ks.take (i + 1)) = sameK cs (pks.take i) (ks.take i) ++ (if eqW cs pk.1 then [.ref k.tup] else []) := by
  induction H with
  | nil => intro i k pk h; cases h
  | @cons pk k pks ks a b c ih =>
    intro i k' pk' h h'
    cases i with
    | zero => cases Option.some.inj h; cases Option.some.inj h'; exact List.append_nil _
    | succ i => exact (congrArg (_ ++ ·) (ih h h')).trans (List.append_assoc _ _ _).symm
theorem sameK_len {cs : List Nat} : ∀ (pks : List PK) (ks : List KRec), (sameK cs pks ks).length ≤ ks.length
  | [], _ => by simp [sameK]
  | _ :: _, [] => by simp [sameK]
  | pk :: pks, k :: ks => by
    have := sameK_len (cs := cs) pks ks
    simp only [sameK, List.length_append, List.length_cons]
    split <;> simp <;> omega
theorem blanks_take : ∀ (ns : List Int) (i : Nat) (x : Int) (j : Nat), ns[i]? = some x → blanksL j (ns.take (i + 1)) = blanksL j (ns.take i) ++ [((j + i : Nat) : Int) * x]
  | [], i, x, j, h => by simp at h
  | n :: ns, 0, x, j, h => by simp at h; subst h; simp [blanksL]
  | n :: ns, i + 1, x, j, h => by
    have := blanks_take ns i x (j + 1) (by simpa using h)
    simp only [List.take_succ_cons, blanksL, this, List.cons_append]
    rw [show j + 1 + i = j + (i + 1) by omega]
theorem blanks_len : ∀ (ns : List Int) (j : Nat), (blanksL j ns).length = ns.length
  | [], _ => rfl
  | _ :: ns, j => by simp [blanksL, blanks_len ns]
theorem led_new {kd I : Addr} {ks : List KRec} {k : KRec} (hgt : ∀ p ∈ ledOf ks, @LT.lt Nat _ kd p.1 ∧ p.1 ≠ I) (hpw : (ledOf ks).Pairwise (fun p q => p.1 ≠ q.1)) (hlt : ∀ p ∈ ledOf ks, @LT.lt Nat _ p.1 k.dx)
    (o : @LT.lt Nat _ kd I ∧ @LT.lt Nat _ I k.dx ∧ @LT.lt Nat _ k.dx k.x ∧ @LT.lt Nat _ k.x k.ct ∧ @LT.lt Nat _ k.ct k.nm ∧ @LT.lt Nat _ k.nm k.lst ∧ @LT.lt Nat _ k.lst k.tup) :
    (∀ p ∈ ledOf (ks ++ [k]), @LT.lt Nat _ kd p.1 ∧ p.1 ≠ I) ∧ (ledOf (ks ++ [k])).Pairwise (fun p q => p.1 ≠ q.1) := by
  have key : ∀ p ∈ k.led, @LE.le Nat _ k.dx p.1 := by
    refine List.forall_mem_cons.mpr ⟨?_, List.forall_mem_cons.mpr ⟨?_, List.forall_mem_cons.mpr ⟨?_, List.forall_mem_cons.mpr ⟨?_, List.forall_mem_cons.mpr ⟨?_, List.forall_mem_cons.mpr ⟨?_, List.forall_mem_nil _⟩⟩⟩⟩⟩⟩ <;> (dsimp only; omega)
  rw [ledOf_snoc]
  constructor
  · intro p hp
    rcases List.mem_append.mp hp with hp | hp
    · exact hgt p hp
    · have := key p hp
      exact ⟨by omega, Nat.ne_of_gt (by omega)⟩
  · rw [List.pairwise_append]
    refine ⟨hpw, ?_, fun p hp q hq => ?_⟩
    · have e : ∀ {a b : Nat}, b < a → a ≠ b := fun h => Nat.ne_of_gt h
      simp only [KRec.led, List.pairwise_cons, List.mem_cons, List.not_mem_nil, or_false, forall_eq_or_imp, forall_eq, false_implies, implies_true, List.Pairwise.nil, and_true]
      refine ⟨⟨e ?_, e ?_, e ?_, e ?_, e ?_⟩, ⟨e ?_, e ?_, e ?_, e ?_⟩, ⟨e ?_, e ?_, e ?_⟩, ⟨e ?_, e ?_⟩, e ?_⟩ <;> omega
    · have h1 := hlt p hp
      have h2 := key q hq
      exact Nat.ne_of_lt (by omega)
theorem off1_mem {D : Addr} : ∀ {l : Led}, LCg.Off1 D l → ∀ p ∈ l, p.1 ≠ D
  | [], _, _, h => nomatch h
  | _ :: _, x, p, h => by
    rcases List.mem_cons.mp h with rfl | h
    · exact x.1
    · exact off1_mem x.2 p h
/-- one list of the kinds grown: the other entries stand -/
theorem led_grown {pre post : List KRec} {k : KRec} {v : Value} (hpw : (ledOf (pre ++ k :: post)).Pairwise (fun p q => p.1 ≠ q.1)) :
    ∀ p ∈ ledOf (pre ++ { k with sv := k.sv ++ [v], ep := k.ep + 1 } :: post), p = (k.lst, listOf (k.sv ++ [v]).toArray (k.ep + 1)) ∨ (p ∈ ledOf (pre ++ k :: post) ∧ p.1 ≠ k.lst) := by
  intro p hp
  rw [ledOf, List.flatMap_append, List.flatMap_cons] at hp hpw ⊢
  rw [List.pairwise_append] at hpw
  obtain ⟨_, hb, hc⟩ := hpw
  rw [List.pairwise_append] at hb
  obtain ⟨hk, _, hx⟩ := hb
  have hkl : (k.lst, listOf k.sv.toArray k.ep) ∈ k.led := .tail _ (.head _)
  rcases List.mem_append.mp hp with hp | hp
  · exact .inr ⟨List.mem_append_left _ hp, hc p hp _ (List.mem_append_left _ hkl)⟩
  · rcases List.mem_append.mp hp with hp | hp
    · have hk1 : (k.tup, tupO [.ref k.x, .ref k.lst]).1 ≠ k.lst := (List.pairwise_cons.mp hk).1 _ (.head _)
      have hk2 : ∀ q ∈ [(k.nm, k.oN), (k.ct, k.oC), (k.x, instObj 132 k.dx), (k.dx, k.oD)], k.lst ≠ q.1 := (List.pairwise_cons.mp (List.pairwise_cons.mp hk).2).1
      rcases List.mem_cons.mp hp with rfl | hp
      · exact .inr ⟨List.mem_append_right _ (List.mem_append_left _ (.head _)), hk1⟩
      · rcases List.mem_cons.mp hp with rfl | hp
        · exact .inl rfl
        · exact .inr ⟨List.mem_append_right _ (List.mem_append_left _ (.tail _ (.tail _ hp))), (hk2 p hp).symm⟩
    · exact .inr ⟨List.mem_append_right _ (List.mem_append_right _ hp), (hx _ hkl p hp).symm⟩
theorem led_tl {pre post : List KRec} {k : KRec} (hpw : (ledOf (pre ++ k :: post)).Pairwise (fun p q => p.1 ≠ q.1)) : @Ne Nat k.tup k.lst := by
  rw [ledOf, List.flatMap_append, List.flatMap_cons, List.pairwise_append] at hpw
  obtain ⟨_, hb, _⟩ := hpw
  rw [List.pairwise_append] at hb
  exact (List.pairwise_cons.mp hb.1).1 _ (.head _)
theorem gt_addr {kd I : Addr} {l l' : Led} (h : l.map (·.1) = l'.map (·.1)) (hgt : ∀ p ∈ l', @LT.lt Nat _ kd p.1 ∧ p.1 ≠ I) : ∀ p ∈ l, @LT.lt Nat _ kd p.1 ∧ p.1 ≠ I := by
  intro p hp
  have : p.1 ∈ l'.map (·.1) := h ▸ List.mem_map_of_mem hp
  obtain ⟨q, hq, e⟩ := List.mem_map.mp this
  rw [← e]; exact hgt q hq
theorem pw_addr {l l' : Led} (h : l.map (·.1) = l'.map (·.1)) (hpw : l'.Pairwise (fun p q => p.1 ≠ q.1)) : l.Pairwise (fun p q => p.1 ≠ q.1) := by
  have h1 : (l'.map (·.1)).Pairwise (fun a b => a ≠ b) := List.pairwise_map.mpr hpw
  rw [← h] at h1
  exact List.pairwise_map.mp h1
theorem led_addr {pre post : List KRec} {k : KRec} {v : Value} : (ledOf (pre ++ { k with sv := k.sv ++ [v], ep := k.ep + 1 } :: post)).map (·.1) = (ledOf (pre ++ k :: post)).map (·.1) := by
  simp only [ledOf, List.flatMap_append, List.flatMap_cons, List.map_append]
  rfl
theorem map_tup {pre post : List KRec} {k : KRec} {v : Value} : (pre ++ { k with sv := k.sv ++ [v], ep := k.ep + 1 } :: post).map (fun k => Value.ref k.tup) = (pre ++ k :: post).map (fun k => Value.ref k.tup) := by
  simp
end
-- LT1
theorem fresh_LT1 : True := by
  w_top off
  exact trivial
local macro_rules | `(tactic| walk_at "subscriptTail Name Slice ref ref") => `(tactic| (k_here; (with_reducible show wpAny _ _ (subscriptTail _ (PySem.Expr.Slice (some _) none none _) (Value.ref _) (Value.ref _)) _ _ _); k_dflt (refine' kmk_slice_ints ?F ?N ?l ?p ?q ?i ?m ?c ?_ ?s ?t ?z; (case F => k_asm); (case N => k_asm); (case l => kmk_list); (case p => kmk_part); (case q => kmk_part); (case i => l_ints); (case m => exact kmk_from (by l_ints) (by omega)); (case c => kmk_len); (case s => with_unfolding_all rfl); (case t => kmk_pure); (case z => exact Nat.le_of_ble_eq_true rfl)); intro D' ws' h' F' N' l1 hI' hC' hL'; (try k_lt l1); (try k_sweep)))
local macro_rules | `(tactic| walk_at "binaryOp Mod int int") => `(tactic| (k_here; refine mod_P ?_ ?_))
local macro_rules | `(tactic| walk_at "exec For") => `(tactic| (k_here; (rename Fr _ _ _ _ => lF'); (with_unfolding_all refine' For_invVF lF' ?k1 ?k2 ?k3 ?k4 ?k5; (case k1 => exact rfl); (case k2 => exact rfl); (case k4 => exact (fun _ => rfl)); (case k5 => assumption); k_whole)))
local macro_rules | `(tactic| walk_at "exec Assign cons ListComp") => `(tactic| (k_here; k_dflt (refine' lc_assign ?g ?sw ?hs ?cl ?kd ?nm ?_; (case g => rfl); (case sw => with_unfolding_all rfl); (case hs => exact (fun _ => rfl)); (case cl => with_unfolding_all rfl); (case kd => rfl); (case nm => decide); k_whole)))
local macro_rules | `(tactic| walk_at "eval ListComp") => `(tactic| (k_here; k_dflt (refine' lc_eval ?g ?hs ?cl ?kd ?nm ?_; (case g => rfl); (case hs => exact (fun _ => rfl)); (case cl => with_unfolding_all rfl); (case kd => rfl); (case nm => decide); k_whole)))
local macro_rules | `(tactic| walk_at "binaryOp Add str str") => `(tactic| (k_here; (with_reducible refine add_strP ?_ ?_); rotate_left; intro _ _))
section
variable {w : World} {p : Program} {loose : List Str} {mean : ExcName → Option Value} {mg mb : Str → Option Value}
theorem told_emit {dp un : Nat} {gd : Option (List Code)} {fa : Addr} {cd : Value} {outer : List Env} {A₀ : Around} {base h₀ : Heap} {L : Addr} {m : Str → Option Value} {s : Shared} {E : Value → Shared → Prop} {C D I : Addr} {oI oC oR : Obj} {mC : Str → Option Value} {zs : List Value} {R : Led} {r : List Nat} {k : Nat} {tr tk : Tok} {bs : List Int}
    (B : Below A₀ base outer h₀) (F : Fr h₀ L s.heap m) (X : (hd.heap_39 w.params).In h₀) (T : Top p loose mean mg mb h₀) (hC1 : CodeHd h₀ 41 37) (hC2 : CodeHd h₀ 48 44)
    (N : News h₀ L s.heap ((I, oI) :: (C, oC) :: (D, LCg.lst zs) :: (L + 1 + 1 + 1, oR) :: R))
    (hd1 : dp + 40 < recursionLimit) (hu1 : un + 600 < cLine)
    (hC : LCg.NsObj oC mC) (off : LCg.Off3 I C D ((L + 1 + 1 + 1, oR) :: R)) (ne : (@Ne Nat I C) ∧ (@Ne Nat I D) ∧ (@Ne Nat C D)) (hR : oR.data = .cell (some (.str (toS r) tr))) (ha : mC (Str.ofString "at") = some (.int (0 + (k : Int)) tk))
    (hz : IntsAre zs bs) (hsz : zs.length ≤ sizeLine) (hlr : r.length ≤ 8) (hk : k < r.length) :
    Emit PySem.Challenge.pw_sr0065_01 w (ktrTop dp un gd (Str.ofString "law") (lawScope w.params) L fa cd (cellsFrom (L + 1) (lawScope w.params).names []) outer) (compEnvC (lcScope (asgVal (headS (forBody (headS (lawBody w.params).tail.tail.tail.tail.tail.tail.tail.tail.tail.tail.tail))))) [(Str.ofString "row", L + 1 + 1 + 1)] C (lawEnv w.params L fa cd)) (lcElt (asgVal (headS (forBody (headS (lawBody w.params).tail.tail.tail.tail.tail.tail.tail.tail.tail.tail.tail))))) [] (.ref D) E s
      (CEnd h₀ L m s I oI C D id (fun _ => (L + 1 + 1 + 1, oR) :: R) (fun _ => True) (fun q => IntsAre q (bs ++ [coll (r.drop k ++ r.take k) r]))) := by
  dsimp only [lawBody, lawEnv, lawO, stmtsOf, lawScope, scopeOf, List.tail, forBody, asgVal, lcElt, lcGens, lcScope, eParts, sParts, headS, headG]
  (k_dflt (refine' emit_nil ne hsz ?_))
  walk_at "STEPS"
  · rw [slice_from, slice_upto]
    (show wpAny _ _ (call _ [Value.str (toS (r.drop k ++ r.take k)) _, _]) _ _ _)
    ((k_here; k_dflt (refine' CallOkC.use (coll_ok _ _ _ _ _ _ _ _ _ _ _) ?k1q32 ?k2q32 ?k3q32 ?k4q32 ?k4sq32 ?k5q32 ?k6q32 ?kc1q32 ?kc2q32 ?k7q32 ?k8q32 ?_); (case k4sq32 => (intro pq32 hpq32; exact hpq32)); (((((case k1q32 | k2q32 | k3q32 | k4q32 | k5q32 => k_asm); (case k6q32 => first | exact rfl | assumption); (case k7q32 => ktr_room); (case k8q32 => ktr_units))); (case kc1q32 | kc2q32 => assumption)))))
    intro r9 n9 h9 tk9 F9 N9 hO9
    obtain ⟨⟨t9, rfl⟩, rfl⟩ := hO9
    k_unfold
    (try dsimp only)
    exact CEl.intro (zs ++ [_]) F9 hC trivial N9 (fun p hp => hp) off ⟨rfl, ints_snoc hz⟩
  · rw [slice_from, slice_upto]
    (show (r.drop k).length + (r.take k).length ≤ 2 ^ 20)
    rw [List.length_drop, List.length_take]
    omega
end
-- LT2
theorem fresh_LT2 : True := by
  w_top off
  exact trivial
section
noncomputable abbrev ifTest (st : Stmt) : Expr := (sParts st).2.2
noncomputable abbrev boolArgs (e : Expr) : List Expr := (eParts e).2.2
noncomputable abbrev cmpLeft (e : Expr) : Expr := (eParts e).1.1
section
variable {w : World} {p : Program} {loose : List Str} {mean : ExcName → Option Value} {mg mb : Str → Option Value}
theorem isi_emit {dp un : Nat} {gd : Option (List Code)} {fa : Addr} {cd : Value} {outer : List Env} {A₀ : Around} {base h₀ : Heap} {L : Addr} {m : Str → Option Value} {s : Shared} {E : Value → Shared → Prop} {C D I : Addr} {oI oC : Obj} {mC : Str → Option Value} {zs : List Value} {R : Led} {x : Int} {tk : Tok}
    (B : Below A₀ base outer h₀) (F : Fr h₀ L s.heap m) (X : (hd.heap_39 w.params).In h₀) (T : Top p loose mean mg mb h₀) (hC1 : CodeHd h₀ 41 37) (hC2 : CodeHd h₀ 48 44)
    (N : News h₀ L s.heap ((I, oI) :: (C, oC) :: (D, LCg.lst zs) :: R))
    (hd1 : dp + 40 < recursionLimit) (hu1 : un + 600 < cLine)
    (hC : LCg.NsObj oC mC) (off : LCg.Off3 I C D R) (ne : (@Ne Nat I C) ∧ (@Ne Nat I D) ∧ (@Ne Nat C D)) (ha : mC (Str.ofString "one") = some (.int x tk)) (hsz : zs.length ≤ sizeLine) :
    Emit PySem.Challenge.pw_sr0065_01 w (ktrTop dp un gd (Str.ofString "law") (lawScope w.params) L fa cd (cellsFrom (L + 1) (lawScope w.params).names []) outer) (compEnvC (lcScope (cmpLeft (headE (boolArgs (ifTest (headS (forBody (headS (lawBody w.params).tail.tail.tail.tail.tail.tail.tail.tail.tail.tail.tail)).tail.tail.tail))).tail))) [] C (lawEnv w.params L fa cd)) (lcElt (cmpLeft (headE (boolArgs (ifTest (headS (forBody (headS (lawBody w.params).tail.tail.tail.tail.tail.tail.tail.tail.tail.tail.tail)).tail.tail.tail))).tail))) (headG (lcGens (cmpLeft (headE (boolArgs (ifTest (headS (forBody (headS (lawBody w.params).tail.tail.tail.tail.tail.tail.tail.tail.tail.tail.tail)).tail.tail.tail))).tail)))).ifs (.ref D) E s
      (CEnd h₀ L m s I oI C D id (fun _ => R) (fun _ => True) (fun q => q = zs)) := by
  dsimp only [lawBody, lawEnv, lawO, stmtsOf, lawScope, scopeOf, List.tail, forBody, asgVal, lcElt, lcGens, lcScope, eParts, sParts, headS, headG, ifTest, boolArgs, cmpLeft, headE]
  (k_dflt (refine' emit_one ne hsz ?_))
  walk_at "STEPS"
  exact CEnd.intro zs (by k_asm) hC trivial (by k_asm) (fun p hp => hp) off rfl
end
end
-- LT3
theorem fresh_LT3 : True := by
  w_top off
  exact trivial
section
section
variable {w : World} {p : Program} {loose : List Str} {mean : ExcName → Option Value} {mg mb : Str → Option Value}
theorem same_emit {dp un : Nat} {gd : Option (List Code)} {fa : Addr} {cd : Value} {outer : List Env} {A₀ : Around} {base h₀ : Heap} {L : Addr} {m : Str → Option Value} {s : Shared} {E : Value → Shared → Prop} {C D I tk' lk : Addr} {oI oC oW : Obj} {mC : Str → Option Value} {zs : List Value} {R : Led}
    {xa dxa nma cta : Addr} {vsa : List Value} {na ta ba : Nat} {Xa : Str} {txa tna tta tba k1a k2a k3a k4a k5a : Tok} {sia : Bool} {nsa : List Int}
    {xb dxb nmb ctb : Addr} {vsb : List Value} {nb tb bb : Nat} {Xb : Str} {txb tnb ttb tbb k1b k2b k3b k4b k5b : Tok} {sib : Bool} {nsb : List Int}
    (B : Below A₀ base outer h₀) (F : Fr h₀ L s.heap m) (X : (hd.heap_39 w.params).In h₀) (T : Top p loose mean mg mb h₀) (hC1 : CodeHd h₀ 41 37) (hC2 : CodeHd h₀ 48 44)
    (N : News h₀ L s.heap ((I, oI) :: (C, oC) :: (D, LCg.lst zs) :: (L + 1 + 1 + 1 + 1, oW) :: (tk', tupO [.ref xb, .ref lk]) :: wsLed w.params xa dxa nma cta vsa na ta ba Xa txa tna tta tba k1a k2a k3a k4a k5a sia (wsLed w.params xb dxb nmb ctb vsb nb tb bb Xb txb tnb ttb tbb k1b k2b k3b k4b k5b sib (R))))
    (hd1 : dp + 40 < recursionLimit) (hu1 : un + 600 < cLine)
    (hC : LCg.NsObj oC mC) (off : LCg.Off3 I C D ((L + 1 + 1 + 1 + 1, oW) :: (tk', tupO [.ref xb, .ref lk]) :: wsLed w.params xa dxa nma cta vsa na ta ba Xa txa tna tta tba k1a k2a k3a k4a k5a sia (wsLed w.params xb dxb nmb ctb vsb nb tb bb Xb txb tnb ttb tbb k1b k2b k3b k4b k5b sib (R)))) (ne : (@Ne Nat I C) ∧ (@Ne Nat I D) ∧ (@Ne Nat C D)) (hW : oW.data = .cell (some (.ref xa))) (ha : mC (Str.ofString "kind") = some (.ref tk')) (hsz : zs.length ≤ sizeLine)
    (hIa : IntsAre vsa nsa) (hIb : IntsAre vsb nsb) (hab : @Ne Nat cta ctb) :
    Emit PySem.Challenge.pw_sr0065_01 w (ktrTop dp un gd (Str.ofString "law") (lawScope w.params) L fa cd (cellsFrom (L + 1) (lawScope w.params).names []) outer) (compEnvC (lcScope (asgVal (headS (forBody (headS (lawBody w.params).tail.tail.tail.tail.tail.tail.tail.tail.tail.tail.tail)).tail.tail.tail.tail.tail.tail.tail.tail.tail))) [(Str.ofString "white", L + 1 + 1 + 1 + 1)] C (lawEnv w.params L fa cd)) (lcElt (asgVal (headS (forBody (headS (lawBody w.params).tail.tail.tail.tail.tail.tail.tail.tail.tail.tail.tail)).tail.tail.tail.tail.tail.tail.tail.tail.tail))) (headG (lcGens (asgVal (headS (forBody (headS (lawBody w.params).tail.tail.tail.tail.tail.tail.tail.tail.tail.tail.tail)).tail.tail.tail.tail.tail.tail.tail.tail.tail)))).ifs (.ref D) E s
      (CEnd h₀ L m s I oI C D id (fun _ => (L + 1 + 1 + 1 + 1, oW) :: (tk', tupO [.ref xb, .ref lk]) :: wsLed w.params xa dxa nma cta vsa na ta ba Xa txa tna tta tba k1a k2a k3a k4a k5a sia (wsLed w.params xb dxb nmb ctb vsb nb tb bb Xb txb tnb ttb tbb k1b k2b k3b k4b k5b sib (R))) (fun _ => True) (fun q => q = zs ++ if (nsa == nsb && ba == bb) then [.ref tk'] else [])) := by
  dsimp only [lawBody, lawEnv, lawO, stmtsOf, lawScope, scopeOf, List.tail, forBody, asgVal, lcElt, lcGens, lcScope, eParts, sParts, headS, headG]
  (k_dflt (refine' emit_one ne hsz ?_))
  walk_at "STEPS"
  (k_dflt (refine' CallOkC.use (ws_eq w p loose mean mg mb ((I, oI) :: (C, oC) :: (D, LCg.lst zs) :: (L + 1 + 1 + 1 + 1, oW) :: (tk', tupO [.ref xb, .ref lk]) :: wsLed w.params xa dxa nma cta vsa na ta ba Xa txa tna tta tba k1a k2a k3a k4a k5a sia (wsLed w.params xb dxb nmb ctb vsb nb tb bb Xb txb tnb ttb tbb k1b k2b k3b k4b k5b sib (R))) xa dxa nma cta vsa na ta ba Xa txa tna tta tba k1a k2a k3a k4a k5a sia nsa xb dxb nmb ctb vsb nb tb bb Xb txb tnb ttb tbb k1b k2b k3b k4b k5b sib nsb hIa hIb hab) ?k1 ?k2 ?k3 ?k4 ?k4s ?k5 ?k6 ?kc1 ?kc2 ?k7 ?k8 ?_))
  walk_at "KS"
  (case k4s => (((try dsimp only); (repeat (refine List.forall_mem_cons.mpr ⟨by k_mem, ?_⟩)); first | exact List.forall_mem_nil _ | walk_at "SUB")))
  intro r9 n9 h9 tk9 F9 N9 hO9
  obtain ⟨rfl, rfl⟩ := hO9
  (try dsimp only)
  (try k_fold)
  walk_at "STEPS"
  · (rename _ = true => hq9)
    refine CEl.intro (zs ++ [_]) (by k_asm) hC trivial (by k_asm) (by walk_at "SUB") off ⟨rfl, by rw [if_pos hq9]⟩
  · (rename _ = false => hq9)
    refine CEnd.intro zs (by k_asm) hC trivial (by k_asm) (by walk_at "SUB") off ?_
    rw [hq9, if_neg (by decide), List.append_nil]
end
end
-- LT4
theorem fresh_LT4 : True := by
  w_top off
  exact trivial
section
section
variable {w : World} {p : Program} {loose : List Str} {mean : ExcName → Option Value} {mg mb : Str → Option Value}
noncomputable abbrev callArg (e : Expr) : Expr := headE (eParts e).2.2
theorem enum_emit {dp un : Nat} {gd : Option (List Code)} {fa : Addr} {cd : Value} {outer : List Env} {A₀ : Around} {base h₀ : Heap} {L : Addr} {m : Str → Option Value} {s : Shared} {E : Value → Shared → Prop} {C D I : Addr} {oI oC : Obj} {mC : Str → Option Value} {zs : List Value} {R : Led} {i : Nat} {x : Int} {ti tx : Tok} {bs : List Int}
    (B : Below A₀ base outer h₀) (F : Fr h₀ L s.heap m) (X : (hd.heap_39 w.params).In h₀) (T : Top p loose mean mg mb h₀) (hC1 : CodeHd h₀ 41 37) (hC2 : CodeHd h₀ 48 44)
    (N : News h₀ L s.heap ((I, oI) :: (C, oC) :: (D, LCg.lst zs) :: R))
    (hd1 : dp + 40 < recursionLimit) (hu1 : un + 600 < cLine)
    (hC : LCg.NsObj oC mC) (off : LCg.Off3 I C D R) (ne : (@Ne Nat I C) ∧ (@Ne Nat I D) ∧ (@Ne Nat C D)) (ha : mC (Str.ofString "long") = some (.int (i : Int) ti)) (hb : mC (Str.ofString "many") = some (.int x tx)) (hi : i ≤ 9)
    (hz : IntsAre zs bs) (hsz : zs.length ≤ sizeLine) :
    Emit PySem.Challenge.pw_sr0065_01 w (ktrTop dp un gd (Str.ofString "law") (lawScope w.params) L fa cd (cellsFrom (L + 1) (lawScope w.params).names []) outer) (compEnvC (lcScope (callArg (asgVal (headS (forBody (headS (lawBody w.params).tail.tail.tail.tail.tail.tail.tail.tail.tail.tail.tail)).tail.tail.tail.tail.tail.tail.tail)))) [] C (lawEnv w.params L fa cd)) (lcElt (callArg (asgVal (headS (forBody (headS (lawBody w.params).tail.tail.tail.tail.tail.tail.tail.tail.tail.tail.tail)).tail.tail.tail.tail.tail.tail.tail)))) [] (.ref D) E s
      (CEnd h₀ L m s I oI C D id (fun _ => R) (fun _ => True) (fun q => IntsAre q (bs ++ [(i : Int) * x]))) := by
  dsimp only [lawBody, lawEnv, lawO, stmtsOf, lawScope, scopeOf, List.tail, forBody, asgVal, lcElt, lcGens, lcScope, eParts, sParts, headS, headG, callArg, headE]
  (k_dflt (refine' emit_nil ne hsz ?_))
  walk_at "STEPS"
  · exact IntMulOk.of_left (intBits_le_64 (by omega) (by omega))
  · exact CEl.intro (zs ++ [_]) (by k_asm) hC trivial (by k_asm) (fun p hp => hp) off ⟨rfl, ints_snoc hz⟩
end
end
-- LE
theorem fresh_LE : True := by
  w_top off
  exact trivial
section
section
variable {w : World} {p : Program} {loose : List Str} {mean : ExcName → Option Value} {mg mb : Str → Option Value}
theorem row_emit {dp un : Nat} {gd : Option (List Code)} {fa : Addr} {cd : Value} {outer : List Env} {A₀ : Around} {base h₀ : Heap} {L : Addr} {m : Str → Option Value} {s : Shared} {E : Value → Shared → Prop} {C D I : Addr} {oI oC : Obj} {mC : Str → Option Value} {zs : List Value} {R : Led} {r : List Nat} {c : Nat} {k : Int} {tr ts tk : Tok} {bs : List (List Nat)} {cl : List (Str × Addr)} {Kp : (Str → Option Value) → Prop}
    (B : Below A₀ base outer h₀) (F : Fr h₀ L s.heap m) (X : (hd.heap_39 w.params).In h₀) (T : Top p loose mean mg mb h₀) (hC1 : CodeHd h₀ 41 37) (hC2 : CodeHd h₀ 48 44)
    (N : News h₀ L s.heap ((I, oI) :: (C, oC) :: (D, LCg.lst zs) :: R))
    (hd1 : dp + 40 < recursionLimit) (hu1 : un + 600 < cLine)
    (hC : LCg.NsObj oC mC) (hKp : Kp mC) (off : LCg.Off3 I C D R) (ne : (@Ne Nat I C) ∧ (@Ne Nat I D) ∧ (@Ne Nat C D)) (hk : mC (Str.ofString "row") = some (.str (toS r) tr)) (ha : mC (Str.ofString "sign") = some (.str (toS [c]) ts)) (hb : mC (Str.ofString "most") = some (.int k tk))
    (hz : TextsAre zs bs) (hsz : zs.length ≤ sizeLine) (hlr : r.length ≤ 8) :
    Emit PySem.Challenge.pw_sr0065_01 w (ktrTop dp un gd (Str.ofString "law") (lawScope w.params) L fa cd (cellsFrom (L + 1) (lawScope w.params).names []) outer) (compEnvC (lcScope (asgVal (headS (forBody (headS (lawBody w.params).tail.tail.tail.tail.tail.tail.tail.tail))))) cl C (lawEnv w.params L fa cd)) (lcElt (asgVal (headS (forBody (headS (lawBody w.params).tail.tail.tail.tail.tail.tail.tail.tail))))) (headG (lcGens (asgVal (headS (forBody (headS (lawBody w.params).tail.tail.tail.tail.tail.tail.tail.tail))))).tail).ifs (.ref D) E s
      (CEnd h₀ L m s I oI C D id (fun _ => R) Kp (fun q => TextsAre q (bs ++ if (r.count c : Int) < k then [r ++ [c]] else []))) := by
  dsimp only [lawBody, lawEnv, lawO, stmtsOf, lawScope, scopeOf, List.tail, forBody, asgVal, lcElt, lcGens, lcScope, eParts, sParts, headS, headG]
  (k_dflt (refine' emit_one ne hsz ?_))
  walk_at "STEPS"
  · (rename Txt.count _ _ < _ => hlt9)
    rw [count_row] at hlt9
    refine CEl.intro (zs ++ [_]) (by k_asm) hC hKp (by k_asm) (fun p hp => hp) off ⟨rfl, ?_⟩
    rw [if_pos hlt9]
    exact hz.snoc _ _
  · exact Nat.le_trans (Nat.add_le_add hlr (Nat.le_refl 1)) (by decide)
  · (rename ¬ (Txt.count _ _ < _) => hlt9)
    rw [count_row] at hlt9
    refine CEnd.intro zs (by k_asm) hC hKp (by k_asm) (fun p hp => hp) off ?_
    rw [if_neg hlt9, List.append_nil]
    exact hz
end
end
-- LB
theorem fresh_LB : True := by
  w_top off
  exact trivial
section
variable {w : World} {p : Program} {loose : List Str} {mean : ExcName → Option Value} {mg mb : Str → Option Value}
theorem told_block {dp un : Nat} {gd : Option (List Code)} {fa : Addr} {cd : Value} {outer : List Env} {A₀ : Around} {base h₀ : Heap} {L : Addr} {m : Str → Option Value} {s : Shared} {E : Value → Shared → Prop} {Q : Value → Shared → Prop} {news : Led} {oR : Obj} {r : List Nat} {n : Nat} {tr t₁ t₂ t₃ : Tok} {rg : Addr} {b : Int} {pz : Pos}
    (B : Below A₀ base outer h₀) (F : Fr h₀ L s.heap m) (X : (hd.heap_39 w.params).In h₀) (T : Top p loose mean mg mb h₀) (hC1 : CodeHd h₀ 41 37) (hC2 : CodeHd h₀ 48 44) (N : News h₀ L s.heap news)
    (hd1 : dp + 40 < recursionLimit) (hu1 : un + 600 < cLine)
    (hm : (L + 1 + 1 + 1, oR) ∈ news) (hR : oR.data = .cell (some (.str (toS r) tr))) (hn : r.length = n) (hn8 : n ≤ 8) (hb : b = n)
    (rgX : IsRange s.heap rg 0 b 1 t₁ t₂ t₃)
    (hQ : ∀ D zs h tk, IntsAre zs (toldL n r) → Fr h₀ L h (fun z => if z = Str.ofString "told" then some (.ref D) else m z) → News h₀ L h ((D, LCg.lst zs) :: news) → LCg.Off1 D news → Q .none { s with heap := h, toks := tk }) :
    LcAt PySem.Challenge.pw_sr0065_01 w (ktrTop dp un gd (Str.ofString "law") (lawScope w.params) L fa cd (cellsFrom (L + 1) (lawScope w.params).names []) outer) E (lawEnv w.params L fa cd) (asgVal (headS (forBody (headS (lawBody w.params).tail.tail.tail.tail.tail.tail.tail.tail.tail.tail.tail)))) (lcScope (asgVal (headS (forBody (headS (lawBody w.params).tail.tail.tail.tail.tail.tail.tail.tail.tail.tail.tail))))) [(Str.ofString "row", L + 1 + 1 + 1)] (some (assign (.Name (Str.ofString "told") pz) (lawEnv w.params L fa cd))) Q (.ref rg) s := by
  subst hb
  have step : ∀ k, k < n → (List.range (k + 1)).map (fun k => coll (r.drop k ++ r.take k) r) = (List.range k).map (fun k => coll (r.drop k ++ r.take k) r) ++ [coll (r.drop k ++ r.take k) r] := fun k _ => by simp [List.range_succ]
  have N2 : News h₀ L s.heap ((L + 1 + 1 + 1, oR) :: news) := List.forall_mem_cons.mpr ⟨N _ hm, N⟩
  dsimp only [lawBody, lawEnv, lawO, stmtsOf, lawScope, scopeOf, List.tail, forBody, asgVal, lcElt, lcGens, lcScope, eParts, sParts, headS, headG]
  (k_dflt (refine' lc1_range (σ := List Value) (n := n) id (fun _ => (L + 1 + 1 + 1, oR) :: news) (fun k zs => IntsAre zs ((List.range k).map fun k => coll (r.drop k ++ r.take k) r)) [] rfl (by decide) rfl rfl rgX (small_one (by decide) (by decide) (by omega) (by omega)) (by rw [rangeSize1]; simp) F N2 rfl .nil ?turnA ?rrA))
  case turnA =>
    intro i t zs h tk I C D oI oC mC E' hi hz hC hx F2 N3 off ne
    have hzl := hz.length
    rw [List.length_map, List.length_range] at hzl
    refine Emit.mono (fun s' h => CEnd.mono h fun q hq => ?_) (told_emit B F2 X T hC1 hC2 N3 hd1 hu1 hC off ne hR hx hz (by rw [sizeLine_eq]; (show zs.length ≤ _); omega) (by omega) (by omega))
    rw [step i hi]
    exact hq
  case rrA =>
    (k_dflt (refine' rr_assign ?e1 ?e2 ?e3 ?_; (case e1 => rfl); (case e2 => rfl); (case e3 => rfl)))
    intro D zs h tk hz F2 N3 o1
    exact hQ D zs h tk hz F2 (fun p hp => N3 p (by rcases List.mem_cons.mp hp with rfl | hp; exact .head _; exact .tail _ (.tail _ hp))) o1.2
theorem isi_block {dp un : Nat} {gd : Option (List Code)} {fa : Addr} {cd : Value} {outer : List Env} {A₀ : Around} {base h₀ : Heap} {L : Addr} {m : Str → Option Value} {s : Shared} {E : Value → Shared → Prop} {Q : Value → Shared → Prop} {news : Led} {tl : Addr} {vs : List Value} {ns : List Int} {ep : Nat}
    (B : Below A₀ base outer h₀) (F : Fr h₀ L s.heap m) (X : (hd.heap_39 w.params).In h₀) (T : Top p loose mean mg mb h₀) (hC1 : CodeHd h₀ 41 37) (hC2 : CodeHd h₀ 48 44) (N : News h₀ L s.heap news)
    (hd1 : dp + 40 < recursionLimit) (hu1 : un + 600 < cLine)
    (hm : (tl, listOf vs.toArray ep) ∈ news) (hI : IntsAre vs ns)
    (hQ : ∀ D h tk, Fr h₀ L h m → News h₀ L h ((D, LCg.lst []) :: news) → LCg.Off1 D news → Q (.ref D) { s with heap := h, toks := tk }) :
    LcAt PySem.Challenge.pw_sr0065_01 w (ktrTop dp un gd (Str.ofString "law") (lawScope w.params) L fa cd (cellsFrom (L + 1) (lawScope w.params).names []) outer) E (lawEnv w.params L fa cd) (cmpLeft (headE (boolArgs (ifTest (headS (forBody (headS (lawBody w.params).tail.tail.tail.tail.tail.tail.tail.tail.tail.tail.tail)).tail.tail.tail))).tail)) (lcScope (cmpLeft (headE (boolArgs (ifTest (headS (forBody (headS (lawBody w.params).tail.tail.tail.tail.tail.tail.tail.tail.tail.tail.tail)).tail.tail.tail))).tail))) [] none Q (.ref tl) s := by
  dsimp only [lawBody, lawEnv, lawO, stmtsOf, lawScope, scopeOf, List.tail, forBody, asgVal, lcElt, lcGens, lcScope, eParts, sParts, headS, headG, ifTest, boolArgs, cmpLeft, headE]
  (k_dflt (refine' lc1_list (σ := List Value) (vs := vs) (k := ep) id (fun _ => news) (fun _ zs => zs = []) [] rfl (by decide) rfl rfl F N (fun _ => hm) rfl rfl ?turnA ?rrA))
  case turnA =>
    intro i v zs h tk I C D oI oC mC E' hi hv hz hC hx F2 N3 off ne
    obtain ⟨x, t, rfl, _⟩ := hI.at i v hv
    refine Emit.mono (fun s' h => CEnd.mono h fun q hq => ?_) (isi_emit B F2 X T hC1 hC2 N3 hd1 hu1 hC off ne hx (by rw [hz]; exact Nat.zero_le _))
    exact hq.trans hz
  case rrA =>
    (refine rr_eval ?_)
    rintro D zs h tk rfl F2 N3 o1
    exact hQ D h tk F2 N3 o1
theorem enum_block {dp un : Nat} {gd : Option (List Code)} {fa : Addr} {cd : Value} {outer : List Env} {A₀ : Around} {base h₀ : Heap} {L : Addr} {m : Str → Option Value} {s : Shared} {E : Value → Shared → Prop} {Q : Value → Shared → Prop} {news : Led} {t : Addr} {vs : List Value} {ns : List Int}
    (B : Below A₀ base outer h₀) (F : Fr h₀ L s.heap m) (X : (hd.heap_39 w.params).In h₀) (T : Top p loose mean mg mb h₀) (hC1 : CodeHd h₀ 41 37) (hC2 : CodeHd h₀ 48 44) (N : News h₀ L s.heap news)
    (hd1 : dp + 40 < recursionLimit) (hu1 : un + 600 < cLine) (ht : (t, tupO vs) ∈ news) (hI : IntsAre vs ns) (hl : ns.length ≤ 9)
    (hQ : ∀ D zs h tk, IntsAre zs (blanksL 0 ns) → Fr h₀ L h m → News h₀ L h ((D, LCg.lst zs) :: news) → LCg.Off1 D news → Q (.ref D) { s with heap := h, toks := tk }) :
    wpAny (model PySem.Challenge.pw_sr0065_01 w) (ktrTop dp un gd (Str.ofString "law") (lawScope w.params) L fa cd (cellsFrom (L + 1) (lawScope w.params).names []) outer) (call (.type "enumerate") [.ref t]) (LcAt PySem.Challenge.pw_sr0065_01 w (ktrTop dp un gd (Str.ofString "law") (lawScope w.params) L fa cd (cellsFrom (L + 1) (lawScope w.params).names []) outer) E (lawEnv w.params L fa cd) (callArg (asgVal (headS (forBody (headS (lawBody w.params).tail.tail.tail.tail.tail.tail.tail.tail.tail.tail.tail)).tail.tail.tail.tail.tail.tail.tail))) (lcScope (callArg (asgVal (headS (forBody (headS (lawBody w.params).tail.tail.tail.tail.tail.tail.tail.tail.tail.tail.tail)).tail.tail.tail.tail.tail.tail.tail)))) [] none Q) E s := by
  refine call_enumT F N ht fun h' he hit hsz F1 N1 k1 => ?_
  have lt : ∀ p ∈ news, p.1 < s.heap.objs.size := fun p hp => Heap.lt_size (N p hp).1
  have fresh : ∀ a, s.heap.objs.size ≤ a → h₀.get? a = none := fun a ha => by
    cases e : h₀.get? a with
    | none => rfl
    | some o' => exact absurd (Heap.lt_size (F.keep a o' e)) (Nat.not_lt.mpr ha)
  dsimp only [lawBody, lawEnv, lawO, stmtsOf, lawScope, scopeOf, List.tail, forBody, asgVal, lcElt, lcGens, lcScope, eParts, sParts, headS, headG, callArg, headE]
  (k_dflt (refine' lc_enum (s := { s with heap := h' }) (Lg := news) (fun k zs => IntsAre zs (blanksL 0 (ns.take k))) rfl rfl (by decide) (by decide) rfl rfl he hit F1 N1 ht .nil (Nat.succ_ne_self _) (Nat.ne_of_lt (Nat.lt_succ_of_lt F.ns.lt)) (Nat.ne_of_lt F.ns.lt) (fresh _ (Nat.le_succ _)) (fresh _ (Nat.le_refl _)) (fun p hp => Nat.ne_of_lt (Nat.lt_succ_of_lt (lt p hp))) (fun p hp => Nat.ne_of_lt (lt p hp)) ?turnA ?rrA))
  case turnA =>
    intro i v zs h tk ti C D oE oI oC mC E' hv hz hC ha hb F2 N3 off ne
    obtain ⟨x, tx, rfl, hx⟩ := hI.at i v hv
    have hzl := hz.length
    rw [blanks_len, List.length_take] at hzl
    have hi9 : i < ns.length := (List.getElem?_eq_some_iff.mp hx).1
    refine Emit.mono (fun s' h => CEnd.mono h fun q hq => ?_) (enum_emit B F2 X T hC1 hC2 N3 hd1 hu1 hC off ne ha hb (by omega) hz (by rw [sizeLine_eq]; (show zs.length ≤ _); omega))
    rw [blanks_take ns i x 0 hx, Nat.zero_add]
    exact hq
  case rrA =>
    (refine rr_eval ?_)
    rintro D zs h tk hz F2 N3 o1
    rw [hI.length, List.take_length] at hz
    exact hQ D zs h tk hz F2 N3 o1
end
namespace Csameblock
noncomputable def Pq (w : World) (p : Program) (loose : List Str) (mean : ExcName → Option Value) (mg : Str → Option Value) (mb : Str → Option Value) (dp : Nat) (un : Nat) (gd : Option (List Code)) (fa : Addr) (cd : Value) (outer : List Env) (A₀ : Around) (base : Heap) (h₀ : Heap) (L : Addr) (m : Str → Option Value) (s : Shared) (E : Value → Shared → Prop) (Q : Value → Shared → Prop) (news : Led) (oW : Obj) (kd : Addr) (e2 : Nat) (ks : List KRec) (pks : List PK) (cs : List Nat) (kw : KRec) (pz : Pos) : Prop := ∀ (B : Below A₀ base outer h₀) (F : Fr h₀ L s.heap m) (X : (hd.heap_39 w.params).In h₀) (T : Top p loose mean mg mb h₀) (hC1 : CodeHd h₀ 41 37) (hC2 : CodeHd h₀ 48 44) (N : News h₀ L s.heap news) (hd1 : dp + 40 < recursionLimit) (hu1 : un + 600 < cLine) (hmk : (kd, listOf (ks.map fun k => Value.ref k.tup).toArray e2) ∈ news) (hmW : (L + 1 + 1 + 1 + 1, oW) ∈ news) (hW : oW.data = .cell (some (.ref kw.x))) (hws : WsIs w.params cs kw) (m1 : (kw.nm, kw.oN) ∈ news) (m2 : (kw.ct, kw.oC) ∈ news) (m3 : (kw.x, instObj 132 kw.dx) ∈ news) (m4 : (kw.dx, kw.oD) ∈ news) (hks : KsAre w.params pks ks) (hlen : ks.length ≤ 128) (hR : ∀ p ∈ ledOf ks, p ∈ news) (hct : ∀ p ∈ ledOf ks, p.1 ≠ kw.ct) (hQ : ∀ D h tk, Fr h₀ L h (fun z => if z = Str.ofString "same" then some (.ref D) else m z) → News h₀ L h ((D, LCg.lst (sameK cs pks ks)) :: news) → LCg.Off1 D news → Q .none { s with heap := h, toks := tk }),
    LcAt PySem.Challenge.pw_sr0065_01 w (ktrTop dp un gd (Str.ofString "law") (lawScope w.params) L fa cd (cellsFrom (L + 1) (lawScope w.params).names []) outer) E (lawEnv w.params L fa cd) (asgVal (headS (forBody (headS (lawBody w.params).tail.tail.tail.tail.tail.tail.tail.tail.tail.tail.tail)).tail.tail.tail.tail.tail.tail.tail.tail.tail)) (lcScope (asgVal (headS (forBody (headS (lawBody w.params).tail.tail.tail.tail.tail.tail.tail.tail.tail.tail.tail)).tail.tail.tail.tail.tail.tail.tail.tail.tail))) [(Str.ofString "white", L + 1 + 1 + 1 + 1)] (some (assign (.Name (Str.ofString "same") pz) (lawEnv w.params L fa cd))) Q (.ref kd) s
noncomputable abbrev Tq : Type := (((((World × Program) × ((List Str) × (ExcName → Option Value))) × (((Str → Option Value) × (Str → Option Value)) × (Nat × Nat))) × ((((Option (List Code)) × Addr) × (Value × (List Env))) × ((Around × Heap) × Heap))) × ((((Addr × (Str → Option Value)) × (Shared × (Value → Shared → Prop))) × (((Value → Shared → Prop) × Led) × Obj)) × (((Addr × Nat) × ((List KRec) × (List PK))) × (((List Nat) × KRec) × Pos))))
theorem exq : ∃ t : Tq, Pq t.1.1.1.1.1 t.1.1.1.1.2 t.1.1.1.2.1 t.1.1.1.2.2 t.1.1.2.1.1 t.1.1.2.1.2 t.1.1.2.2.1 t.1.1.2.2.2 t.1.2.1.1.1 t.1.2.1.1.2 t.1.2.1.2.1 t.1.2.1.2.2 t.1.2.2.1.1 t.1.2.2.1.2 t.1.2.2.2 t.2.1.1.1.1 t.2.1.1.1.2 t.2.1.1.2.1 t.2.1.1.2.2 t.2.1.2.1.1 t.2.1.2.1.2 t.2.1.2.2 t.2.2.1.1.1 t.2.2.1.1.2 t.2.2.1.2.1 t.2.2.1.2.2 t.2.2.2.1.1 t.2.2.2.1.2 t.2.2.2.2 → ∀ t : Tq, Pq t.1.1.1.1.1 t.1.1.1.1.2 t.1.1.1.2.1 t.1.1.1.2.2 t.1.1.2.1.1 t.1.1.2.1.2 t.1.1.2.2.1 t.1.1.2.2.2 t.1.2.1.1.1 t.1.2.1.1.2 t.1.2.1.2.1 t.1.2.1.2.2 t.1.2.2.1.1 t.1.2.2.1.2 t.1.2.2.2 t.2.1.1.1.1 t.2.1.1.1.2 t.2.1.1.2.1 t.2.1.1.2.2 t.2.1.2.1.1 t.2.1.2.1.2 t.2.1.2.2 t.2.2.1.1.1 t.2.2.1.1.2 t.2.2.1.2.1 t.2.2.1.2.2 t.2.2.2.1.1 t.2.2.2.1.2 t.2.2.2.2 := dk (α := Tq) ((((((aWorld 0, default), (default, (fun _ => default))), (((fun _ => default), (fun _ => default)), (default, default))), (((default, default), (default, default)), ((({} : Around), default), default))), ((((default, (fun _ => default)), (({} : Shared), (fun _ _ => True))), (((fun _ _ => True), default), default)), (((default, default), (default, default)), ((default, kr0), default))))) _
noncomputable def cq : Tq := Classical.choose exq
@[irreducible] noncomputable def w : World := cq.1.1.1.1.1
@[irreducible] noncomputable def p : Program := cq.1.1.1.1.2
@[irreducible] noncomputable def loose : List Str := cq.1.1.1.2.1
@[irreducible] noncomputable def mean : ExcName → Option Value := cq.1.1.1.2.2
@[irreducible] noncomputable def mg : Str → Option Value := cq.1.1.2.1.1
@[irreducible] noncomputable def mb : Str → Option Value := cq.1.1.2.1.2
@[irreducible] noncomputable def dp : Nat := cq.1.1.2.2.1
@[irreducible] noncomputable def un : Nat := cq.1.1.2.2.2
@[irreducible] noncomputable def gd : Option (List Code) := cq.1.2.1.1.1
@[irreducible] noncomputable def fa : Addr := cq.1.2.1.1.2
@[irreducible] noncomputable def cd : Value := cq.1.2.1.2.1
@[irreducible] noncomputable def outer : List Env := cq.1.2.1.2.2
@[irreducible] noncomputable def A₀ : Around := cq.1.2.2.1.1
@[irreducible] noncomputable def base : Heap := cq.1.2.2.1.2
@[irreducible] noncomputable def h₀ : Heap := cq.1.2.2.2
@[irreducible] noncomputable def L : Addr := cq.2.1.1.1.1
@[irreducible] noncomputable def m : Str → Option Value := cq.2.1.1.1.2
@[irreducible] noncomputable def s : Shared := cq.2.1.1.2.1
@[irreducible] noncomputable def E : Value → Shared → Prop := cq.2.1.1.2.2
@[irreducible] noncomputable def Q : Value → Shared → Prop := cq.2.1.2.1.1
@[irreducible] noncomputable def news : Led := cq.2.1.2.1.2
@[irreducible] noncomputable def oW : Obj := cq.2.1.2.2
@[irreducible] noncomputable def kd : Addr := cq.2.2.1.1.1
@[irreducible] noncomputable def e2 : Nat := cq.2.2.1.1.2
@[irreducible] noncomputable def ks : List KRec := cq.2.2.1.2.1
@[irreducible] noncomputable def pks : List PK := cq.2.2.1.2.2
@[irreducible] noncomputable def cs : List Nat := cq.2.2.2.1.1
@[irreducible] noncomputable def kw : KRec := cq.2.2.2.1.2
@[irreducible] noncomputable def pz : Pos := cq.2.2.2.2
theorem coreq : Pq w p loose mean mg mb dp un gd fa cd outer A₀ base h₀ L m s E Q news oW kd e2 ks pks cs kw pz := by
  unfold Pq
  intro B F X T hC1 hC2 N hd1 hu1 hmk hmW hW hws m1 m2 m3 m4 hks hlen hR hct hQ
  dsimp only [lawBody, lawEnv, lawO, stmtsOf, lawScope, scopeOf, List.tail, forBody, asgVal, lcElt, lcGens, lcScope, eParts, sParts, headS, headG]
  (k_dflt (refine' lc1_list (σ := List Value) (vs := ks.map fun k => Value.ref k.tup) (k := e2) id (fun _ => news) (fun i zs => zs = sameK cs (pks.take i) (ks.take i)) [] rfl (by decide) rfl rfl F N (fun _ => hmk) rfl (by simp [sameK]) ?turnA ?rrA))
  case turnA =>
    intro i v zs h tk I C D oI oC mC E' hi hv hz hC hx F2 N3 off ne
    rw [List.getElem?_map] at hv
    cases hk : ks[i]? with
    | none => rw [hk] at hv; cases hv
    | some k =>
      rw [hk] at hv
      cases hv
      obtain ⟨pk, hpk, wk, _⟩ := hks.at hk
      have mk := ledOf_mem (List.mem_of_getElem? hk)
      obtain ⟨X1, tx1, tn1, tt1, tb1, a1, a2, a3, a4, a5, si1, vs1, e1, e2', e3, e4⟩ := hws
      obtain ⟨X2, tx2, tn2, tt2, tb2, b1, b2, b3, b4, b5, si2, vs2, f1, f2, f3, f4⟩ := wk
      rw [e1] at m4
      rw [e2'] at m1
      rw [e3] at m2
      have q0 : (k.tup, tupO [.ref k.x, .ref k.lst]) ∈ news := hR _ (mk _ (.head _))
      have q1 : (k.nm, k.oN) ∈ news := hR _ (mk _ (.tail _ (.tail _ (.head _))))
      have q2 : (k.ct, k.oC) ∈ news := hR _ (mk _ (.tail _ (.tail _ (.tail _ (.head _)))))
      have q3 : (k.x, instObj 132 k.dx) ∈ news := hR _ (mk _ (.tail _ (.tail _ (.tail _ (.tail _ (.head _))))))
      have q4 : (k.dx, k.oD) ∈ news := hR _ (mk _ (.tail _ (.tail _ (.tail _ (.tail _ (.tail _ (.head _)))))))
      rw [f1] at q4
      rw [f2] at q1
      rw [f3] at q2
      have hzl : zs.length ≤ 128 := by
        rw [hz]; refine Nat.le_trans (sameK_len _ _) ?_; rw [List.length_take]; omega
      have hcc : @Ne Nat kw.ct k.ct := fun q => hct _ (mk _ (.tail _ (.tail _ (.tail _ (.head _))))) q.symm
      have sub9 : ∀ p ∈ (L + 1 + 1 + 1 + 1, oW) :: (k.tup, tupO [.ref k.x, .ref k.lst]) :: wsLed w.params kw.x kw.dx kw.nm kw.ct vs1 (wsF cs).n (wsF cs).t (wsF cs).b X1 tx1 tn1 tt1 tb1 a1 a2 a3 a4 a5 si1 (wsLed w.params k.x k.dx k.nm k.ct vs2 (wsF pk.1).n (wsF pk.1).t (wsF pk.1).b X2 tx2 tn2 tt2 tb2 b1 b2 b3 b4 b5 si2 news), p ∈ news :=
        List.forall_mem_cons.mpr ⟨hmW, List.forall_mem_cons.mpr ⟨q0, List.forall_mem_cons.mpr ⟨m1, List.forall_mem_cons.mpr ⟨m2, List.forall_mem_cons.mpr ⟨m3, List.forall_mem_cons.mpr ⟨m4, List.forall_mem_cons.mpr ⟨q1, List.forall_mem_cons.mpr ⟨q2, List.forall_mem_cons.mpr ⟨q3, List.forall_mem_cons.mpr ⟨q4, fun p hp => hp⟩⟩⟩⟩⟩⟩⟩⟩⟩⟩
      have off3 := LCg.Off3.mem off
      refine Emit.mono (fun s' h => ?_) (same_emit (oI := oI) (R := news) B F2 X T hC1 hC2 (fun p hp => N3 p ?_) hd1 hu1 hC (LCg.Off3.of fun p hp => off3 p (sub9 p hp)) ne hW hx (by rw [sizeLine_eq]; (show zs.length ≤ _); omega) e4 f4 hcc)
      · obtain ⟨c, h', tk', oC', mC', e, F', hC', N', off', hf⟩ := h
        refine ⟨c, h', tk', oC', mC', e, F', hC', fun p hp => N' p ?_, ?_, ?_⟩
        · rcases List.mem_cons.mp hp with rfl | hp
          · exact .head _
          · rcases List.mem_cons.mp hp with rfl | hp
            · exact .tail _ (.head _)
            · rcases List.mem_cons.mp hp with rfl | hp
              · exact .tail _ (.tail _ (.head _))
              · exact .tail _ (.tail _ (.tail _ (.tail _ (.tail _ (.tail _ (.tail _ (.tail _ (.tail _ (.tail _ (.tail _ (.tail _ (.tail _ hp))))))))))))
        · exact off
        · show c = sameK cs (pks.take (i + 1)) (ks.take (i + 1))
          rw [sameK_step hks hk hpk, ← hz]
          exact hf
      · rcases List.mem_cons.mp hp with rfl | hp
        · exact .head _
        · rcases List.mem_cons.mp hp with rfl | hp
          · exact .tail _ (.head _)
          · rcases List.mem_cons.mp hp with rfl | hp
            · exact .tail _ (.tail _ (.head _))
            · exact .tail _ (.tail _ (.tail _ (sub9 p hp)))
  case rrA =>
    (k_dflt (refine' rr_assign ?e1 ?e2 ?e3 ?_; (case e1 => rfl); (case e2 => rfl); (case e3 => rfl)))
    rintro D zs h tk rfl F2 N3 o1
    rw [List.length_map, ← hks.length, List.take_length, hks.length, List.take_length] at N3
    exact hQ D h tk F2 N3 o1
theorem allq (w : World) (p : Program) (loose : List Str) (mean : ExcName → Option Value) (mg : Str → Option Value) (mb : Str → Option Value) (dp : Nat) (un : Nat) (gd : Option (List Code)) (fa : Addr) (cd : Value) (outer : List Env) (A₀ : Around) (base : Heap) (h₀ : Heap) (L : Addr) (m : Str → Option Value) (s : Shared) (E : Value → Shared → Prop) (Q : Value → Shared → Prop) (news : Led) (oW : Obj) (kd : Addr) (e2 : Nat) (ks : List KRec) (pks : List PK) (cs : List Nat) (kw : KRec) (pz : Pos) : Pq w p loose mean mg mb dp un gd fa cd outer A₀ base h₀ L m s E Q news oW kd e2 ks pks cs kw pz := by
  with_unfolding_all exact Classical.choose_spec exq coreq (((((w, p), (loose, mean)), ((mg, mb), (dp, un))), (((gd, fa), (cd, outer)), ((A₀, base), h₀))), ((((L, m), (s, E)), ((Q, news), oW)), (((kd, e2), (ks, pks)), ((cs, kw), pz))))
end Csameblock
section
variable {w : World} {p : Program} {loose : List Str} {mean : ExcName → Option Value} {mg mb : Str → Option Value}
theorem same_block {dp un : Nat} {gd : Option (List Code)} {fa : Addr} {cd : Value} {outer : List Env} {A₀ : Around} {base h₀ : Heap} {L : Addr} {m : Str → Option Value} {s : Shared} {E : Value → Shared → Prop} {Q : Value → Shared → Prop} {news : Led} {oW : Obj} {kd : Addr} {e2 : Nat} {ks : List KRec} {pks : List PK} {cs : List Nat} {kw : KRec} {pz : Pos}
    (B : Below A₀ base outer h₀) (F : Fr h₀ L s.heap m) (X : (hd.heap_39 w.params).In h₀) (T : Top p loose mean mg mb h₀) (hC1 : CodeHd h₀ 41 37) (hC2 : CodeHd h₀ 48 44) (N : News h₀ L s.heap news)
    (hd1 : dp + 40 < recursionLimit) (hu1 : un + 600 < cLine)
    (hmk : (kd, listOf (ks.map fun k => Value.ref k.tup).toArray e2) ∈ news) (hmW : (L + 1 + 1 + 1 + 1, oW) ∈ news) (hW : oW.data = .cell (some (.ref kw.x))) (hws : WsIs w.params cs kw)
    (m1 : (kw.nm, kw.oN) ∈ news) (m2 : (kw.ct, kw.oC) ∈ news) (m3 : (kw.x, instObj 132 kw.dx) ∈ news) (m4 : (kw.dx, kw.oD) ∈ news) (hks : KsAre w.params pks ks) (hlen : ks.length ≤ 128) (hR : ∀ p ∈ ledOf ks, p ∈ news) (hct : ∀ p ∈ ledOf ks, p.1 ≠ kw.ct)
    (hQ : ∀ D h tk, Fr h₀ L h (fun z => if z = Str.ofString "same" then some (.ref D) else m z) → News h₀ L h ((D, LCg.lst (sameK cs pks ks)) :: news) → LCg.Off1 D news → Q .none { s with heap := h, toks := tk }) :
    LcAt PySem.Challenge.pw_sr0065_01 w (ktrTop dp un gd (Str.ofString "law") (lawScope w.params) L fa cd (cellsFrom (L + 1) (lawScope w.params).names []) outer) E (lawEnv w.params L fa cd) (asgVal (headS (forBody (headS (lawBody w.params).tail.tail.tail.tail.tail.tail.tail.tail.tail.tail.tail)).tail.tail.tail.tail.tail.tail.tail.tail.tail)) (lcScope (asgVal (headS (forBody (headS (lawBody w.params).tail.tail.tail.tail.tail.tail.tail.tail.tail.tail.tail)).tail.tail.tail.tail.tail.tail.tail.tail.tail))) [(Str.ofString "white", L + 1 + 1 + 1 + 1)] (some (assign (.Name (Str.ofString "same") pz) (lawEnv w.params L fa cd))) Q (.ref kd) s :=
  Csameblock.allq w p loose mean mg mb dp un gd fa cd outer A₀ base h₀ L m s E Q news oW kd e2 ks pks cs kw pz B F X T hC1 hC2 N hd1 hu1 hmk hmW hW hws m1 m2 m3 m4 hks hlen hR hct hQ
end
-- LQB
theorem fresh_LQB : True := by
  w_top off
  exact trivial
section
variable {w : World} {p : Program} {loose : List Str} {mean : ExcName → Option Value} {mg mb : Str → Option Value}
end
namespace Crowb
noncomputable def Pq (w : World) (p : Program) (loose : List Str) (mean : ExcName → Option Value) (mg : Str → Option Value) (mb : Str → Option Value) (dp : Nat) (un : Nat) (gd : Option (List Code)) (fa : Addr) (cd : Value) (outer : List Env) (A₀ : Around) (base : Heap) (h₀ : Heap) (L : Addr) (m : Str → Option Value) (s : Shared) (E : Value → Shared → Prop) (rw : Addr) (pr : Addr) (sy : Addr) (kd : Addr) (I : Addr) (x9 : Addr) (dx9 : Addr) (nm9 : Addr) (ct9 : Addr) (rv : List Value) (pv : List Value) (sv : List Value) (vs9 : List Value) (er : Nat) (ep : Nat) (e1 : Nat) (e2 : Nat) (o1 : Obj) (o2 : Obj) (o5 : Obj) (oR : Obj) (oW : Obj) (oI : Obj) (ks : List KRec) (pks : List PK) (sg : Int) (tb : Int) (sym : Int) (tsg : Tok) (ttb : Tok) (tr : Tok) (tsy : Tok) (tb9 : Tok) (tx9 : Tok) (tn9 : Tok) (tt9 : Tok) (k19 : Tok) (k29 : Tok) (k39 : Tok) (k49 : Tok) (k59 : Tok) (X9 : Str) (si9 : Bool) (r : List Nat) (Qf : Flow → Shared → Prop) : Prop := ∀ (B : Below A₀ base outer h₀) (F : Fr h₀ L s.heap (fun z => if z = Str.ofString "symmetry" then some (Value.int sym tsy) else if z = Str.ofString "symmetries" then some (Value.ref sy) else if z = Str.ofString "kinds" then some (.ref kd) else m z)) (X : (hd.heap_39 w.params).In h₀) (T : Top p loose mean mg mb h₀) (hC1 : CodeHd h₀ 41 37) (hC2 : CodeHd h₀ 48 44) (N : News h₀ L s.heap ((nm9, tupO [.ref ct9, .int ((wsF (leadL r)).b : Int) tb9]) :: (ct9, tupO vs9) :: (x9, instObj 132 dx9) :: (dx9, wsDict w.params X9 tx9 (wsF (leadL r)).n (wsF (leadL r)).t tn9 tt9 nm9 si9 k19 k29 k39 k49 k59) :: (I, oI) :: (sy, listOf (sv).toArray e1) :: (kd, listOf ((ks).map fun k => Value.ref k.tup).toArray e2) :: (rw, listOf rv.toArray er) :: (pr, listOf pv.toArray ep) :: (L + 1 + 1 + 1 + 1 + 1, o5) :: (L + 1 + 1 + 1 + 1, oW) :: (L + 1 + 1 + 1, oR) :: (L + 1 + 1, o2) :: (L + 1, o1) :: (44, tabObj #[]) :: (37, tabObj #[]) :: ledOf ks)) (hlt : @LT.lt Nat _ 44 L ∧ @LT.lt Nat _ 37 L) (hd1 : dp + 40 < recursionLimit) (hu1 : un + 600 < cLine) (hpr : @LT.lt Nat _ (L + 1 + 1 + 1 + 1 + 1) pr) (hkd : @LT.lt Nat _ sy kd ∧ @LT.lt Nat _ rw kd ∧ @LT.lt Nat _ pr kd ∧ @LT.lt Nat _ rw sy ∧ @LT.lt Nat _ pr sy ∧ True) (hIk : @LT.lt Nat _ kd I) (hw9 : @LT.lt Nat _ ct9 nm9 ∧ @LT.lt Nat _ x9 ct9 ∧ @LT.lt Nat _ dx9 x9 ∧ @LT.lt Nat _ I dx9) (hR9 : ∀ p ∈ ledOf ks, @LT.lt Nat _ p.1 dx9) (d1 : o1.data = .cell (some (.int sg tsg))) (d2 : o2.data = .cell (some (.int tb ttb))) (dR : oR.data = .cell (some (.str (toS r) tr))) (dW : oW.data = .cell (some (.ref x9))) (hs3 : 3 ≤ sg) (hs8 : sg ≤ 8) (ht1 : 1 ≤ tb) (hts : tb ≤ sg) (hr1 : RowOk sg.toNat r) (f2 : (wsF (leadL r)).n = sg.toNat) (f3 : (wsF (leadL r)).t = tb.toNat) (f4 : (blanksL 0 (wsF (leadL r)).ns).sum = ((sg.toNat : Nat) : Int) - (tb.toNat : Nat)) (f5 : (wsF (leadL r)).b = 0) (f6 : eqW (leadL r) (leadL r ++ [32]) = false) (hI9 : IntsAre vs9 (wsF (leadL r)).ns) (hks : KsAre w.params pks ks) (hlen : ks.length ≤ 128) (hszk : ∀ k ∈ ks, k.sv.toArray.size ≤ sizeLine) (hgt : ∀ p ∈ ledOf ks, @LT.lt Nat _ kd p.1 ∧ p.1 ≠ I) (hpw : (ledOf ks).Pairwise (fun p q => p.1 ≠ q.1)) (hend : ∀ (f : Flow) (ks' : List KRec) (e2' : Nat) (oW' : Obj) (h' : Heap) (tk' : Nat) (m' : Str → Option Value) (news' : Led), f = .next ∨ f = .cont → Fr h₀ L h' m' → News h₀ L h' news' → (I, oI) ∈ news' → (∀ p ∈ (sy, listOf (sv).toArray e1) :: (kd, listOf ((ks').map fun k => Value.ref k.tup).toArray e2') :: (rw, listOf rv.toArray er) :: (pr, listOf pv.toArray ep) :: (L + 1 + 1 + 1 + 1 + 1, o5) :: (L + 1 + 1 + 1 + 1, oW') :: (L + 1 + 1 + 1, oR) :: (L + 1 + 1, o2) :: (L + 1, o1) :: (44, tabObj #[]) :: (37, tabObj #[]) :: ledOf ks', p ∈ news') →
      (∀ p ∈ ledOf ks', @LT.lt Nat _ kd p.1 ∧ p.1 ≠ I) → (ledOf ks').Pairwise (fun p q => p.1 ≠ q.1) → (∃ x, oW'.data = .cell x) → (∀ z, [Str.ofString "told", Str.ofString "symmetry", Str.ofString "counts", Str.ofString "behind", Str.ofString "blanks", Str.ofString "same"].contains z = false → m' z = (fun z => if z = Str.ofString "symmetry" then some (Value.int sym tsy) else if z = Str.ofString "symmetries" then some (Value.ref sy) else if z = Str.ofString "kinds" then some (.ref kd) else m z) z) → KsAre w.params (addK (leadL r) sym pks) ks' → Qf f { s with heap := h', toks := tk' }),
    wpAny (model PySem.Challenge.pw_sr0065_01 w) (ktrTop dp un gd (Str.ofString "law") (lawScope w.params) L fa cd (cellsFrom (L + 1) (lawScope w.params).names []) outer) (execs (forBody (headS (lawBody w.params).tail.tail.tail.tail.tail.tail.tail.tail.tail.tail.tail)).tail.tail.tail.tail.tail.tail (lawEnv w.params L fa cd)) Qf E s
noncomputable abbrev Tq : Type := ((((((World × Program) × ((List Str) × (ExcName → Option Value))) × (((Str → Option Value) × (Str → Option Value)) × (Nat × Nat))) × ((((Option (List Code)) × Addr) × (Value × (List Env))) × ((Around × Heap) × (Heap × Addr)))) × (((((Str → Option Value) × Shared) × ((Value → Shared → Prop) × Addr)) × ((Addr × Addr) × (Addr × Addr))) × (((Addr × Addr) × (Addr × Addr)) × (((List Value) × (List Value)) × ((List Value) × (List Value)))))) × (((((Nat × Nat) × (Nat × Nat)) × ((Obj × Obj) × (Obj × Obj))) × (((Obj × Obj) × ((List KRec) × (List PK))) × ((Int × Int) × (Int × Tok)))) × ((((Tok × Tok) × (Tok × Tok)) × ((Tok × Tok) × (Tok × Tok))) × (((Tok × Tok) × (Tok × Tok)) × ((Str × Bool) × ((List Nat) × (Flow → Shared → Prop)))))))
theorem exq : ∃ t : Tq, Pq t.1.1.1.1.1.1 t.1.1.1.1.1.2 t.1.1.1.1.2.1 t.1.1.1.1.2.2 t.1.1.1.2.1.1 t.1.1.1.2.1.2 t.1.1.1.2.2.1 t.1.1.1.2.2.2 t.1.1.2.1.1.1 t.1.1.2.1.1.2 t.1.1.2.1.2.1 t.1.1.2.1.2.2 t.1.1.2.2.1.1 t.1.1.2.2.1.2 t.1.1.2.2.2.1 t.1.1.2.2.2.2 t.1.2.1.1.1.1 t.1.2.1.1.1.2 t.1.2.1.1.2.1 t.1.2.1.1.2.2 t.1.2.1.2.1.1 t.1.2.1.2.1.2 t.1.2.1.2.2.1 t.1.2.1.2.2.2 t.1.2.2.1.1.1 t.1.2.2.1.1.2 t.1.2.2.1.2.1 t.1.2.2.1.2.2 t.1.2.2.2.1.1 t.1.2.2.2.1.2 t.1.2.2.2.2.1 t.1.2.2.2.2.2 t.2.1.1.1.1.1 t.2.1.1.1.1.2 t.2.1.1.1.2.1 t.2.1.1.1.2.2 t.2.1.1.2.1.1 t.2.1.1.2.1.2 t.2.1.1.2.2.1 t.2.1.1.2.2.2 t.2.1.2.1.1.1 t.2.1.2.1.1.2 t.2.1.2.1.2.1 t.2.1.2.1.2.2 t.2.1.2.2.1.1 t.2.1.2.2.1.2 t.2.1.2.2.2.1 t.2.1.2.2.2.2 t.2.2.1.1.1.1 t.2.2.1.1.1.2 t.2.2.1.1.2.1 t.2.2.1.1.2.2 t.2.2.1.2.1.1 t.2.2.1.2.1.2 t.2.2.1.2.2.1 t.2.2.1.2.2.2 t.2.2.2.1.1.1 t.2.2.2.1.1.2 t.2.2.2.1.2.1 t.2.2.2.1.2.2 t.2.2.2.2.1.1 t.2.2.2.2.1.2 t.2.2.2.2.2.1 t.2.2.2.2.2.2 → ∀ t : Tq, Pq t.1.1.1.1.1.1 t.1.1.1.1.1.2 t.1.1.1.1.2.1 t.1.1.1.1.2.2 t.1.1.1.2.1.1 t.1.1.1.2.1.2 t.1.1.1.2.2.1 t.1.1.1.2.2.2 t.1.1.2.1.1.1 t.1.1.2.1.1.2 t.1.1.2.1.2.1 t.1.1.2.1.2.2 t.1.1.2.2.1.1 t.1.1.2.2.1.2 t.1.1.2.2.2.1 t.1.1.2.2.2.2 t.1.2.1.1.1.1 t.1.2.1.1.1.2 t.1.2.1.1.2.1 t.1.2.1.1.2.2 t.1.2.1.2.1.1 t.1.2.1.2.1.2 t.1.2.1.2.2.1 t.1.2.1.2.2.2 t.1.2.2.1.1.1 t.1.2.2.1.1.2 t.1.2.2.1.2.1 t.1.2.2.1.2.2 t.1.2.2.2.1.1 t.1.2.2.2.1.2 t.1.2.2.2.2.1 t.1.2.2.2.2.2 t.2.1.1.1.1.1 t.2.1.1.1.1.2 t.2.1.1.1.2.1 t.2.1.1.1.2.2 t.2.1.1.2.1.1 t.2.1.1.2.1.2 t.2.1.1.2.2.1 t.2.1.1.2.2.2 t.2.1.2.1.1.1 t.2.1.2.1.1.2 t.2.1.2.1.2.1 t.2.1.2.1.2.2 t.2.1.2.2.1.1 t.2.1.2.2.1.2 t.2.1.2.2.2.1 t.2.1.2.2.2.2 t.2.2.1.1.1.1 t.2.2.1.1.1.2 t.2.2.1.1.2.1 t.2.2.1.1.2.2 t.2.2.1.2.1.1 t.2.2.1.2.1.2 t.2.2.1.2.2.1 t.2.2.1.2.2.2 t.2.2.2.1.1.1 t.2.2.2.1.1.2 t.2.2.2.1.2.1 t.2.2.2.1.2.2 t.2.2.2.2.1.1 t.2.2.2.2.1.2 t.2.2.2.2.2.1 t.2.2.2.2.2.2 := dk (α := Tq) (((((((aWorld 0, default), (default, (fun _ => default))), (((fun _ => default), (fun _ => default)), (default, default))), (((default, default), (default, default)), ((({} : Around), default), (default, default)))), (((((fun _ => default), ({} : Shared)), ((fun _ _ => True), default)), ((default, default), (default, default))), (((default, default), (default, default)), ((default, default), (default, default))))), (((((default, default), (default, default)), ((default, default), (default, default))), (((default, default), (default, default)), ((default, default), (default, default)))), ((((default, default), (default, default)), ((default, default), (default, default))), (((default, default), (default, default)), ((default, default), (default, (fun _ _ => True)))))))) _
noncomputable def cq : Tq := Classical.choose exq
@[irreducible] noncomputable def w : World := cq.1.1.1.1.1.1
@[irreducible] noncomputable def p : Program := cq.1.1.1.1.1.2
@[irreducible] noncomputable def loose : List Str := cq.1.1.1.1.2.1
@[irreducible] noncomputable def mean : ExcName → Option Value := cq.1.1.1.1.2.2
@[irreducible] noncomputable def mg : Str → Option Value := cq.1.1.1.2.1.1
@[irreducible] noncomputable def mb : Str → Option Value := cq.1.1.1.2.1.2
@[irreducible] noncomputable def dp : Nat := cq.1.1.1.2.2.1
@[irreducible] noncomputable def un : Nat := cq.1.1.1.2.2.2
@[irreducible] noncomputable def gd : Option (List Code) := cq.1.1.2.1.1.1
@[irreducible] noncomputable def fa : Addr := cq.1.1.2.1.1.2
@[irreducible] noncomputable def cd : Value := cq.1.1.2.1.2.1
@[irreducible] noncomputable def outer : List Env := cq.1.1.2.1.2.2
@[irreducible] noncomputable def A₀ : Around := cq.1.1.2.2.1.1
@[irreducible] noncomputable def base : Heap := cq.1.1.2.2.1.2
@[irreducible] noncomputable def h₀ : Heap := cq.1.1.2.2.2.1
@[irreducible] noncomputable def L : Addr := cq.1.1.2.2.2.2
@[irreducible] noncomputable def m : Str → Option Value := cq.1.2.1.1.1.1
@[irreducible] noncomputable def s : Shared := cq.1.2.1.1.1.2
@[irreducible] noncomputable def E : Value → Shared → Prop := cq.1.2.1.1.2.1
@[irreducible] noncomputable def rw : Addr := cq.1.2.1.1.2.2
@[irreducible] noncomputable def pr : Addr := cq.1.2.1.2.1.1
@[irreducible] noncomputable def sy : Addr := cq.1.2.1.2.1.2
@[irreducible] noncomputable def kd : Addr := cq.1.2.1.2.2.1
@[irreducible] noncomputable def I : Addr := cq.1.2.1.2.2.2
@[irreducible] noncomputable def x9 : Addr := cq.1.2.2.1.1.1
@[irreducible] noncomputable def dx9 : Addr := cq.1.2.2.1.1.2
@[irreducible] noncomputable def nm9 : Addr := cq.1.2.2.1.2.1
@[irreducible] noncomputable def ct9 : Addr := cq.1.2.2.1.2.2
@[irreducible] noncomputable def rv : List Value := cq.1.2.2.2.1.1
@[irreducible] noncomputable def pv : List Value := cq.1.2.2.2.1.2
@[irreducible] noncomputable def sv : List Value := cq.1.2.2.2.2.1
@[irreducible] noncomputable def vs9 : List Value := cq.1.2.2.2.2.2
@[irreducible] noncomputable def er : Nat := cq.2.1.1.1.1.1
@[irreducible] noncomputable def ep : Nat := cq.2.1.1.1.1.2
@[irreducible] noncomputable def e1 : Nat := cq.2.1.1.1.2.1
@[irreducible] noncomputable def e2 : Nat := cq.2.1.1.1.2.2
@[irreducible] noncomputable def o1 : Obj := cq.2.1.1.2.1.1
@[irreducible] noncomputable def o2 : Obj := cq.2.1.1.2.1.2
@[irreducible] noncomputable def o5 : Obj := cq.2.1.1.2.2.1
@[irreducible] noncomputable def oR : Obj := cq.2.1.1.2.2.2
@[irreducible] noncomputable def oW : Obj := cq.2.1.2.1.1.1
@[irreducible] noncomputable def oI : Obj := cq.2.1.2.1.1.2
@[irreducible] noncomputable def ks : List KRec := cq.2.1.2.1.2.1
@[irreducible] noncomputable def pks : List PK := cq.2.1.2.1.2.2
@[irreducible] noncomputable def sg : Int := cq.2.1.2.2.1.1
@[irreducible] noncomputable def tb : Int := cq.2.1.2.2.1.2
@[irreducible] noncomputable def sym : Int := cq.2.1.2.2.2.1
@[irreducible] noncomputable def tsg : Tok := cq.2.1.2.2.2.2
@[irreducible] noncomputable def ttb : Tok := cq.2.2.1.1.1.1
@[irreducible] noncomputable def tr : Tok := cq.2.2.1.1.1.2
@[irreducible] noncomputable def tsy : Tok := cq.2.2.1.1.2.1
@[irreducible] noncomputable def tb9 : Tok := cq.2.2.1.1.2.2
@[irreducible] noncomputable def tx9 : Tok := cq.2.2.1.2.1.1
@[irreducible] noncomputable def tn9 : Tok := cq.2.2.1.2.1.2
@[irreducible] noncomputable def tt9 : Tok := cq.2.2.1.2.2.1
@[irreducible] noncomputable def k19 : Tok := cq.2.2.1.2.2.2
@[irreducible] noncomputable def k29 : Tok := cq.2.2.2.1.1.1
@[irreducible] noncomputable def k39 : Tok := cq.2.2.2.1.1.2
@[irreducible] noncomputable def k49 : Tok := cq.2.2.2.1.2.1
@[irreducible] noncomputable def k59 : Tok := cq.2.2.2.1.2.2
@[irreducible] noncomputable def X9 : Str := cq.2.2.2.2.1.1
@[irreducible] noncomputable def si9 : Bool := cq.2.2.2.2.1.2
@[irreducible] noncomputable def r : List Nat := cq.2.2.2.2.2.1
@[irreducible] noncomputable def Qf : Flow → Shared → Prop := cq.2.2.2.2.2.2
theorem coreq : Pq w p loose mean mg mb dp un gd fa cd outer A₀ base h₀ L m s E rw pr sy kd I x9 dx9 nm9 ct9 rv pv sv vs9 er ep e1 e2 o1 o2 o5 oR oW oI ks pks sg tb sym tsg ttb tr tsy tb9 tx9 tn9 tt9 k19 k29 k39 k49 k59 X9 si9 r Qf := by
  unfold Pq
  intro B F X T hC1 hC2 N hlt hd1 hu1 hpr hkd hIk hw9 hR9 d1 d2 dR dW hs3 hs8 ht1 hts hr1 f2 f3 f4 f5 f6 hI9 hks hlen hszk hgt hpw hend
  dsimp only [lawBody, lawEnv, lawO, stmtsOf, lawScope, scopeOf, List.tail, forBody, asgVal, lcElt, lcGens, lcScope, eParts, sParts, headS, headG]
  have hrl : r.length = sg.toNat := hr1.1
  have hR3 : ∀ p ∈ ledOf ks, p.1 ≠ L + 1 + 1 + 1 := fun p hp => Nat.ne_of_gt (by have := (hgt p hp).1; omega)
  have hR4 : ∀ p ∈ ledOf ks, p.1 ≠ L + 1 + 1 + 1 + 1 := fun p hp => Nat.ne_of_gt (by have := (hgt p hp).1; omega)
  have hRk : ∀ p ∈ ledOf ks, p.1 ≠ kd := fun p hp => Nat.ne_of_gt (hgt p hp).1
  generalize hRR : ledOf ks = R at N hR3 hR4 hRk hgt hpw hR9
  (((try dsimp only); walk1; (try ((with_reducible show wpAny _ _ (execs _ _) _ _ _); walk1)); (repeat' ((fail_if_success (with_reducible first | (show Pre _) | (show wpAny _ _ (execs _ _) _ _ _) | (show TurnOk _ _ _ _ _ _ _ _ _ _ _) | (show wpAny _ _ (exec (Stmt.While _ _ _ _) _) _ _ _) | (show wpAny _ _ (pyIter _) _ _ _) | (show wpAny _ _ (call (Value.ref _) _) _ _ _))); walk_at "TRY"))))
  (((try dsimp only); walk1; (try ((with_reducible show wpAny _ _ (execs _ _) _ _ _); walk1)); (repeat' ((fail_if_success (with_reducible first | (show Pre _) | (show wpAny _ _ (execs _ _) _ _ _) | (show TurnOk _ _ _ _ _ _ _ _ _ _ _) | (show wpAny _ _ (exec (Stmt.While _ _ _ _) _) _ _ _) | (show wpAny _ _ (pyIter _) _ _ _) | (show wpAny _ _ (call (Value.ref _) _) _ _ _))); walk_at "TRY"))))
  (rename Fr _ _ _ _ => nF); (rename News _ _ _ _ => nN)
  have hl9 : (wsF (leadL r)).ns.length ≤ 9 := by have := wsF_len (leadL r); rw [lead_len] at this; omega
  (k_dflt (refine' enum_block B nF X T hC1 hC2 nN hd1 hu1 ?m1 hI9 hl9 ?q1))
  case m1 => k_mem
  case q1 =>
    intro D zs h tk hz F2 N2 oD1
    clear nF nN
    (try dsimp only)
    (try k_fold)
    (repeat' ((fail_if_success (with_reducible first | (show Pre _) | (show wpAny _ _ (execs _ _) _ _ _) | (show TurnOk _ _ _ _ _ _ _ _ _ _ _) | (show wpAny _ _ (exec (Stmt.While _ _ _ _) _) _ _ _) | (show wpAny _ _ (pyIter _) _ _ _) | (show wpAny _ _ (call (Value.ref _) _) _ _ _))); walk_at "TRY"))
    (((try dsimp only); walk1; (try ((with_reducible show wpAny _ _ (execs _ _) _ _ _); walk1)); (repeat' ((fail_if_success (with_reducible first | (show Pre _) | (show wpAny _ _ (execs _ _) _ _ _) | (show TurnOk _ _ _ _ _ _ _ _ _ _ _) | (show wpAny _ _ (exec (Stmt.While _ _ _ _) _) _ _ _) | (show wpAny _ _ (pyIter _) _ _ _) | (show wpAny _ _ (call (Value.ref _) _) _ _ _))); walk_at "TRY"))))
    · (rename _ = true => hc9)
      (rename Fr _ _ _ _ => nF); (rename News _ _ _ _ => nN)
      have N5 := cb_drop (news := (nm9, tupO [.ref ct9, .int ((wsF (leadL r)).b : Int) tb9]) :: (ct9, tupO vs9) :: (x9, instObj 132 dx9) :: (dx9, wsDict w.params X9 tx9 (wsF (leadL r)).n (wsF (leadL r)).t tn9 tt9 nm9 si9 k19 k29 k39 k49 k59) :: (I, oI) :: (sy, listOf (sv).toArray e1) :: (kd, listOf ((ks).map fun k => Value.ref k.tup).toArray e2) :: (rw, listOf rv.toArray er) :: (pr, listOf pv.toArray ep) :: (L + 1 + 1 + 1 + 1 + 1, o5) :: (L + 1 + 1 + 1 + 1, oW) :: (L + 1 + 1 + 1, oR) :: (L + 1 + 1, o2) :: (L + 1, o1) :: (44, tabObj #[]) :: (37, tabObj #[]) :: R) nN (by (((try dsimp only); (repeat (refine List.forall_mem_cons.mpr ⟨by k_mem, ?_⟩)); first | exact List.forall_mem_nil _ | walk_at "SUB")))
      clear nN
      walk_at "STEPS"
      (rename Fr _ _ _ _ => nF)
      (k_dflt (refine' same_block (kw := (⟨0, x9, dx9, nm9, ct9, 0, wsDict w.params X9 tx9 (wsF (leadL r)).n (wsF (leadL r)).t tn9 tt9 nm9 si9 k19 k29 k39 k49 k59, tupO [.ref ct9, .int ((wsF (leadL r)).b : Int) tb9], tupO vs9, [], 0⟩ : KRec)) B nF X T hC1 hC2 N5 hd1 hu1 ?m2 ?m3 dW ?hws ?m4 ?m5 ?m6 ?m7 hks hlen ?hR ?hct ?q2))
      case m2 => k_mem
      case m3 => k_mem
      case m4 => k_mem
      case m5 => k_mem
      case m6 => k_mem
      case m7 => k_mem
      case hws => exact ⟨_, _, _, _, _, _, _, _, _, _, _, _, rfl, rfl, rfl, hI9⟩
      case hR => (intro p hp; rw [hRR] at hp; (repeat (refine List.Mem.tail _ ?_)); exact hp)
      case hct => (intro p hp; rw [hRR] at hp; have := hR9 p hp; exact Nat.ne_of_lt (by (show @LT.lt Nat _ _ ct9); omega))
      case q2 =>
        intro D2 h tk F3 N3 oD2
        clear nF N5
        have hD2 := neN oD2.2.2.2.2.2.2.1
        cases hS : sameK (leadL r) pks ks with
        | nil =>
          rw [hS] at N3
          (try dsimp only)
          (try k_fold)
          have hsz : (List.map (fun k => Value.ref k.tup) ks).toArray.size ≤ sizeLine := by rw [List.size_toArray, List.length_map, sizeLine_eq]; omega
          have hr1l : 1 ≤ r.length := by omega
          walk_at "STEPS"
          · rw [slice_1, item_0 hr1l, show Str.ofString " x" = toS [32, 120] by decide +kernel]
            (show wpAny _ _ (call _ [Value.str (toS (leadL r ++ [32, 120])) _]) _ _ _)
            rw [show leadL r ++ [32, 120] = (leadL r ++ [32]) ++ 120 :: [] by simp]
            (k_dflt (refine' CallOkC.use (ws_new w p loose mean mg mb _ (leadL r ++ [32]) [] _ (lead_mem2 hr1) (by rw [List.length_append, lead_len]; (show r.length + 1 ≤ 9); omega)) ?k1 ?k2 ?k3 ?k4 ?k4s ?k5 ?k6 ?kc1 ?kc2 ?k7 ?k8 ?_))
            walk_at "KS"
            (case k4s => (intro p hp; exact hp))
            intro r8 n8 h8 tk8 F8 N8 hO8
            obtain ⟨x8, dx8, nm8, ct8, vs8, tx8, tn8, tt8, tb8, k18, k28, k38, k48, k58, si8, rfl, hI8, rfl, lt1, lt2, lt3, lt8⟩ := hO8
            simp only [AllLt, and_true] at lt8
            (try dsimp only)
            (try k_fold)
            walk_at "STEPS"
            (rename News _ _ _ _ => nN)
            (k_dflt (refine' CallOkC.use (ws_eq w p loose mean mg mb ((nm8, tupO [.ref ct8, .int ((wsF (leadL r ++ [32])).b : Int) tb8]) :: (ct8, tupO vs8) :: (x8, instObj 132 dx8) :: (dx8, wsDict w.params ⟨((leadL r ++ [32]) ++ 120 :: []).toArray⟩ tx8 (wsF (leadL r ++ [32])).n (wsF (leadL r ++ [32])).t tn8 tt8 nm8 si8 k18 k28 k38 k48 k58) :: (D2, LCg.lst []) :: (nm9, tupO [.ref ct9, .int ((wsF (leadL r)).b : Int) tb9]) :: (ct9, tupO vs9) :: (x9, instObj 132 dx9) :: (dx9, wsDict w.params X9 tx9 (wsF (leadL r)).n (wsF (leadL r)).t tn9 tt9 nm9 si9 k19 k29 k39 k49 k59) :: (I, oI) :: (sy, listOf (sv).toArray e1) :: (kd, listOf ((ks).map fun k => Value.ref k.tup).toArray e2) :: (rw, listOf rv.toArray er) :: (pr, listOf pv.toArray ep) :: (L + 1 + 1 + 1 + 1 + 1, o5) :: (L + 1 + 1 + 1 + 1, oW) :: (L + 1 + 1 + 1, oR) :: (L + 1 + 1, o2) :: (L + 1, o1) :: (44, tabObj #[]) :: (37, tabObj #[]) :: R) x9 dx9 nm9 ct9 vs9 (wsF (leadL r)).n (wsF (leadL r)).t (wsF (leadL r)).b X9 tx9 tn9 tt9 tb9 k19 k29 k39 k49 k59 si9 (wsF (leadL r)).ns x8 dx8 nm8 ct8 vs8 (wsF (leadL r ++ [32])).n (wsF (leadL r ++ [32])).t (wsF (leadL r ++ [32])).b ⟨((leadL r ++ [32]) ++ 120 :: []).toArray⟩ tx8 tn8 tt8 tb8 k18 k28 k38 k48 k58 si8 (wsF (leadL r ++ [32])).ns hI9 hI8 (Nat.ne_of_lt (show @LT.lt Nat _ ct9 ct8 from by omega))) ?k1 ?k2 ?k3 ?k4 ?k4s ?k5 ?k6 ?kc1 ?kc2 ?k7 ?k8 ?_))
            walk_at "KS"
            (case k4s => (((try dsimp only); (repeat (refine List.forall_mem_cons.mpr ⟨by k_mem, ?_⟩)); first | exact List.forall_mem_nil _ | walk_at "SUB")))
            intro r7 n7 h7 tk7 F7 N7 hO7
            obtain ⟨rfl, rfl⟩ := hO7
            clear nN
            (try dsimp only)
            (try k_fold)
            walk_at "STEPS"
            · (rename _ = true => hq9)
              exact absurd (show eqW (leadL r) (leadL r ++ [32]) = true from hq9) (by rw [f6]; decide)
            · (rename Fr _ _ _ _ => F6); (rename News _ _ _ _ => N6); (simp only [List.push_toArray] at N6)
              obtain ⟨T9, l9, N7, o1', o2', o3'⟩ : ∃ T9 l9, News h₀ L _ ((kd, listOf ((ks.map fun k => Value.ref k.tup) ++ [Value.ref T9]).toArray (e2 + 1)) :: (T9, tupO [.ref x9, .ref l9]) :: (l9, listOf [Value.int sym tsy].toArray 0) :: (nm9, tupO [.ref ct9, .int ((wsF (leadL r)).b : Int) tb9]) :: (ct9, tupO vs9) :: (x9, instObj 132 dx9) :: (dx9, wsDict w.params X9 tx9 (wsF (leadL r)).n (wsF (leadL r)).t tn9 tt9 nm9 si9 k19 k29 k39 k49 k59) :: (I, oI) :: (sy, listOf (sv).toArray e1) :: (rw, listOf rv.toArray er) :: (pr, listOf pv.toArray ep) :: (L + 1 + 1 + 1 + 1 + 1, o5) :: (L + 1 + 1 + 1 + 1, oW) :: (L + 1 + 1 + 1, oR) :: (L + 1 + 1, o2) :: (L + 1, o1) :: (44, tabObj #[]) :: (37, tabObj #[]) :: R) ∧ @LT.lt Nat _ nm9 l9 ∧ @LT.lt Nat _ l9 T9 ∧ AllLt l9 R := ⟨_, _, cb_drop N6 (by (((try dsimp only); (repeat (refine List.forall_mem_cons.mpr ⟨by k_mem, ?_⟩)); first | exact List.forall_mem_nil _ | walk_at "SUB"))), by omega, by omega, by tbn_find⟩
              clear N6
              have hn9 := led_new (ks := ks) (k := (⟨T9, x9, dx9, nm9, ct9, l9, wsDict w.params X9 tx9 (wsF (leadL r)).n (wsF (leadL r)).t tn9 tt9 nm9 si9 k19 k29 k39 k49 k59, tupO [.ref ct9, .int ((wsF (leadL r)).b : Int) tb9], tupO vs9, [.int sym tsy], 0⟩ : KRec)) (I := I) (kd := kd) (hRR ▸ hgt) (hRR ▸ hpw) (hRR ▸ hR9) ⟨hIk, hw9.2.2.2, hw9.2.2.1, hw9.2.1, hw9.1, o1', o2'⟩
              refine hend .next (ks ++ [(⟨T9, x9, dx9, nm9, ct9, l9, wsDict w.params X9 tx9 (wsF (leadL r)).n (wsF (leadL r)).t tn9 tt9 nm9 si9 k19 k29 k39 k49 k59, tupO [.ref ct9, .int ((wsF (leadL r)).b : Int) tb9], tupO vs9, [.int sym tsy], 0⟩ : KRec)]) (e2 + 1) oW _ _ _ _ (.inl rfl) F6 N7 (by k_mem) ?_ hn9.1 hn9.2 ⟨_, dW⟩ (by ((intro zq44 h3q44; (simp only [List.contains_cons, List.contains_nil, Bool.or_false, Bool.or_eq_false_iff, beq_eq_false_iff_ne, ne_eq] at h3q44); simp [h3q44]))) ?_
              · rw [ledOf_snoc, hRR, List.map_append]
                refine List.forall_mem_cons.mpr ⟨by k_mem, List.forall_mem_cons.mpr ⟨by k_mem, List.forall_mem_cons.mpr ⟨by k_mem, List.forall_mem_cons.mpr ⟨by k_mem, List.forall_mem_cons.mpr ⟨by k_mem, List.forall_mem_cons.mpr ⟨by k_mem, List.forall_mem_cons.mpr ⟨by k_mem, List.forall_mem_cons.mpr ⟨by k_mem, List.forall_mem_cons.mpr ⟨by k_mem, List.forall_mem_cons.mpr ⟨by k_mem, List.forall_mem_cons.mpr ⟨by k_mem, ?_⟩⟩⟩⟩⟩⟩⟩⟩⟩⟩⟩
                intro p hp
                rcases List.mem_append.mp hp with hp | hp
                · (repeat (refine List.Mem.tail _ ?_)); exact hp
                · simp only [KRec.led, List.mem_cons, List.not_mem_nil, or_false] at hp
                  rcases hp with rfl | rfl | rfl | rfl | rfl | rfl <;> k_mem
              · rw [same_nil hks hS]
                exact hks.snoc ⟨_, _, _, _, _, _, _, _, _, _, _, _, rfl, rfl, rfl, hI9⟩ (.cons _ _ .nil)
          · rw [slice_1, item_0 hr1l, show Str.ofString " x" = toS [32, 120] by decide +kernel]
            (show (r.drop 1 ++ r.take 1).length + [32, 120].length ≤ 2 ^ 20)
            rw [show r.drop 1 ++ r.take 1 = leadL r from rfl, lead_len]
            (show r.length + 2 ≤ _)
            omega
          · rw [slice_1, item_0 hr1l]
            (show (r.drop 1).length + (r.take 1).length ≤ 2 ^ 20)
            rw [List.length_drop, List.length_take]
            omega
        | cons v9 vs' =>
          rw [hS] at N3
          obtain ⟨pre, post, k9, e1', rfl, e3, e4⟩ := same_first hks hS sym tsy
          generalize ks = kz at *
          subst e1'
          have kin : ∀ p ∈ k9.led, p ∈ R := fun p hp => hRR ▸ ledOf_mem (List.mem_append_right _ (.head _)) p hp
          have mt : (k9.tup, tupO [.ref k9.x, .ref k9.lst]) ∈ R := kin _ (.head _)
          have ml : (k9.lst, listOf k9.sv.toArray k9.ep) ∈ R := kin _ (.tail _ (.head _))
          have hl1 : @LT.lt Nat _ kd k9.lst := (hgt _ ml).1
          have hl2 : @LT.lt Nat _ k9.lst dx9 := hR9 _ ml
          have hl3 : @Ne Nat k9.lst I := (hgt _ ml).2
          have hl4 : @Ne Nat k9.tup k9.lst := led_tl (hRR ▸ hpw)
          have hl5 : @Ne Nat k9.lst D2 := off1_mem oD2 (k9.lst, listOf k9.sv.toArray k9.ep) (by (repeat (refine List.Mem.tail _ ?_)); exact ml)
          have hRf : ∀ p ∈ R.filter (fun p => p.1 != k9.lst), p ∈ R ∧ p.1 ≠ k9.lst := fun p hp => by
            have := List.mem_filter.mp hp
            exact ⟨this.1, by simpa using this.2⟩
          have hRg : ∀ p ∈ R, p.1 ≠ k9.lst → p ∈ R.filter (fun p => p.1 != k9.lst) := fun p hp h => List.mem_filter.mpr ⟨hp, by simpa using h⟩
          generalize hR2 : R.filter (fun p => p.1 != k9.lst) = R2 at hRf hRg
          have hRl : ∀ p ∈ R2, p.1 ≠ k9.lst := fun p hp => (hRf p hp).2
          have N4 : News h₀ L h ((k9.lst, listOf k9.sv.toArray k9.ep) :: (k9.tup, tupO [.ref k9.x, .ref k9.lst]) :: (D2, LCg.lst (.ref k9.tup :: vs')) :: (nm9, tupO [.ref ct9, .int ((wsF (leadL r)).b : Int) tb9]) :: (ct9, tupO vs9) :: (x9, instObj 132 dx9) :: (dx9, wsDict w.params X9 tx9 (wsF (leadL r)).n (wsF (leadL r)).t tn9 tt9 nm9 si9 k19 k29 k39 k49 k59) :: (I, oI) :: (sy, listOf (sv).toArray e1) :: (kd, listOf ((pre ++ k9 :: post).map fun k => Value.ref k.tup).toArray e2) :: (rw, listOf rv.toArray er) :: (pr, listOf pv.toArray ep) :: (L + 1 + 1 + 1 + 1 + 1, o5) :: (L + 1 + 1 + 1 + 1, oW) :: (L + 1 + 1 + 1, oR) :: (L + 1 + 1, o2) :: (L + 1, o1) :: (44, tabObj #[]) :: (37, tabObj #[]) :: R2) := cb_drop N3 (List.forall_mem_cons.mpr ⟨by (repeat (refine List.Mem.tail _ ?_)); exact ml, List.forall_mem_cons.mpr ⟨by (repeat (refine List.Mem.tail _ ?_)); exact mt, by (repeat (refine List.forall_mem_cons.mpr ⟨by k_mem, ?_⟩)); intro p hp; (repeat (refine List.Mem.tail _ ?_)); exact (hRf p hp).1⟩⟩)
          clear N3
          have hvl : vs'.length ≤ 128 := by have := sameK_len (cs := leadL r) pks (pre ++ k9 :: post); rw [hS, List.length_cons] at this; omega
          obtain ⟨pk9, _, _, hk9⟩ := hks.at (i := pre.length) (k := k9) (by simp)
          have hsz : k9.sv.toArray.size ≤ sizeLine := hszk k9 (List.mem_append_right _ (.head _))
          (try dsimp only)
          (try k_fold)
          walk_at "STEPS"
          (refine wpAny_truthy_list (items := (Value.ref k9.tup :: vs').toArray) ⟨_, (N4 (D2, LCg.lst (.ref k9.tup :: vs')) (by k_mem)).1, rfl, _, rfl⟩ (by rw [List.size_toArray, List.length_cons]; omega) ?_)
          (refine ite_pos rfl ?_)
          (try dsimp only)
          walk_at "STEPS"
          (rename Fr _ _ _ _ => F6); (rename News _ _ _ _ => N6); (simp only [List.push_toArray] at N6)
          refine hend .next (pre ++ { k9 with sv := k9.sv ++ [Value.int sym tsy], ep := k9.ep + 1 } :: post) e2 oW _ _ _ _ (.inl rfl) F6 N6 (by k_mem) ?_ (gt_addr led_addr (hRR ▸ hgt)) (pw_addr led_addr (hRR ▸ hpw)) ⟨_, dW⟩ (by ((intro zq45 h3q45; (simp only [List.contains_cons, List.contains_nil, Bool.or_false, Bool.or_eq_false_iff, beq_eq_false_iff_ne, ne_eq] at h3q45); simp [h3q45]))) e4
          rw [map_tup]
          refine List.forall_mem_cons.mpr ⟨by k_mem, List.forall_mem_cons.mpr ⟨by k_mem, List.forall_mem_cons.mpr ⟨by k_mem, List.forall_mem_cons.mpr ⟨by k_mem, List.forall_mem_cons.mpr ⟨by k_mem, List.forall_mem_cons.mpr ⟨by k_mem, List.forall_mem_cons.mpr ⟨by k_mem, List.forall_mem_cons.mpr ⟨by k_mem, List.forall_mem_cons.mpr ⟨by k_mem, List.forall_mem_cons.mpr ⟨by k_mem, List.forall_mem_cons.mpr ⟨by k_mem, ?_⟩⟩⟩⟩⟩⟩⟩⟩⟩⟩⟩
          intro p hp
          rcases led_grown (hRR ▸ hpw) p hp with rfl | ⟨h1, h2⟩
          · k_mem
          · rw [hRR] at h1
            (repeat (refine List.Mem.tail _ ?_))
            exact hRg p h1 h2
    · (rename _ = false => hc9)
      rw [f2, f3, f4, f5] at hc9
      simp only [Bool.and_eq_false_iff, beq_eq_false_iff_ne, ne_eq] at hc9
      omega
theorem allq (w : World) (p : Program) (loose : List Str) (mean : ExcName → Option Value) (mg : Str → Option Value) (mb : Str → Option Value) (dp : Nat) (un : Nat) (gd : Option (List Code)) (fa : Addr) (cd : Value) (outer : List Env) (A₀ : Around) (base : Heap) (h₀ : Heap) (L : Addr) (m : Str → Option Value) (s : Shared) (E : Value → Shared → Prop) (rw : Addr) (pr : Addr) (sy : Addr) (kd : Addr) (I : Addr) (x9 : Addr) (dx9 : Addr) (nm9 : Addr) (ct9 : Addr) (rv : List Value) (pv : List Value) (sv : List Value) (vs9 : List Value) (er : Nat) (ep : Nat) (e1 : Nat) (e2 : Nat) (o1 : Obj) (o2 : Obj) (o5 : Obj) (oR : Obj) (oW : Obj) (oI : Obj) (ks : List KRec) (pks : List PK) (sg : Int) (tb : Int) (sym : Int) (tsg : Tok) (ttb : Tok) (tr : Tok) (tsy : Tok) (tb9 : Tok) (tx9 : Tok) (tn9 : Tok) (tt9 : Tok) (k19 : Tok) (k29 : Tok) (k39 : Tok) (k49 : Tok) (k59 : Tok) (X9 : Str) (si9 : Bool) (r : List Nat) (Qf : Flow → Shared → Prop) : Pq w p loose mean mg mb dp un gd fa cd outer A₀ base h₀ L m s E rw pr sy kd I x9 dx9 nm9 ct9 rv pv sv vs9 er ep e1 e2 o1 o2 o5 oR oW oI ks pks sg tb sym tsg ttb tr tsy tb9 tx9 tn9 tt9 k19 k29 k39 k49 k59 X9 si9 r Qf := by
  with_unfolding_all exact Classical.choose_spec exq coreq ((((((w, p), (loose, mean)), ((mg, mb), (dp, un))), (((gd, fa), (cd, outer)), ((A₀, base), (h₀, L)))), ((((m, s), (E, rw)), ((pr, sy), (kd, I))), (((x9, dx9), (nm9, ct9)), ((rv, pv), (sv, vs9))))), (((((er, ep), (e1, e2)), ((o1, o2), (o5, oR))), (((oW, oI), (ks, pks)), ((sg, tb), (sym, tsg)))), ((((ttb, tr), (tsy, tb9)), ((tx9, tn9), (tt9, k19))), (((k29, k39), (k49, k59)), ((X9, si9), (r, Qf))))))
end Crowb
section
variable {w : World} {p : Program} {loose : List Str} {mean : ExcName → Option Value} {mg mb : Str → Option Value}
theorem row_b {dp un : Nat} {gd : Option (List Code)} {fa : Addr} {cd : Value} {outer : List Env} {A₀ : Around} {base h₀ : Heap} {L : Addr} {m : Str → Option Value} {s : Shared} {E : Value → Shared → Prop} {rw pr sy kd I x9 dx9 nm9 ct9 : Addr} {rv pv sv vs9 : List Value} {er ep e1 e2 : Nat} {o1 o2 o5 oR oW oI : Obj} {ks : List KRec} {pks : List PK} {sg tb sym : Int} {tsg ttb tr tsy tb9 tx9 tn9 tt9 k19 k29 k39 k49 k59 : Tok} {X9 : Str} {si9 : Bool} {r : List Nat} {Qf : Flow → Shared → Prop}
    (B : Below A₀ base outer h₀) (F : Fr h₀ L s.heap (fun z => if z = Str.ofString "symmetry" then some (Value.int sym tsy) else if z = Str.ofString "symmetries" then some (Value.ref sy) else if z = Str.ofString "kinds" then some (.ref kd) else m z)) (X : (hd.heap_39 w.params).In h₀) (T : Top p loose mean mg mb h₀) (hC1 : CodeHd h₀ 41 37) (hC2 : CodeHd h₀ 48 44)
    (N : News h₀ L s.heap ((nm9, tupO [.ref ct9, .int ((wsF (leadL r)).b : Int) tb9]) :: (ct9, tupO vs9) :: (x9, instObj 132 dx9) :: (dx9, wsDict w.params X9 tx9 (wsF (leadL r)).n (wsF (leadL r)).t tn9 tt9 nm9 si9 k19 k29 k39 k49 k59) :: (I, oI) :: (sy, listOf (sv).toArray e1) :: (kd, listOf ((ks).map fun k => Value.ref k.tup).toArray e2) :: (rw, listOf rv.toArray er) :: (pr, listOf pv.toArray ep) :: (L + 1 + 1 + 1 + 1 + 1, o5) :: (L + 1 + 1 + 1 + 1, oW) :: (L + 1 + 1 + 1, oR) :: (L + 1 + 1, o2) :: (L + 1, o1) :: (44, tabObj #[]) :: (37, tabObj #[]) :: ledOf ks))
    (hlt : @LT.lt Nat _ 44 L ∧ @LT.lt Nat _ 37 L) (hd1 : dp + 40 < recursionLimit) (hu1 : un + 600 < cLine)
    (hpr : @LT.lt Nat _ (L + 1 + 1 + 1 + 1 + 1) pr) (hkd : @LT.lt Nat _ sy kd ∧ @LT.lt Nat _ rw kd ∧ @LT.lt Nat _ pr kd ∧ @LT.lt Nat _ rw sy ∧ @LT.lt Nat _ pr sy ∧ True) (hIk : @LT.lt Nat _ kd I)
    (hw9 : @LT.lt Nat _ ct9 nm9 ∧ @LT.lt Nat _ x9 ct9 ∧ @LT.lt Nat _ dx9 x9 ∧ @LT.lt Nat _ I dx9) (hR9 : ∀ p ∈ ledOf ks, @LT.lt Nat _ p.1 dx9)
    (d1 : o1.data = .cell (some (.int sg tsg))) (d2 : o2.data = .cell (some (.int tb ttb))) (dR : oR.data = .cell (some (.str (toS r) tr))) (dW : oW.data = .cell (some (.ref x9)))
    (hs3 : 3 ≤ sg) (hs8 : sg ≤ 8) (ht1 : 1 ≤ tb) (hts : tb ≤ sg) (hr1 : RowOk sg.toNat r) (f2 : (wsF (leadL r)).n = sg.toNat) (f3 : (wsF (leadL r)).t = tb.toNat) (f4 : (blanksL 0 (wsF (leadL r)).ns).sum = ((sg.toNat : Nat) : Int) - (tb.toNat : Nat)) (f5 : (wsF (leadL r)).b = 0) (f6 : eqW (leadL r) (leadL r ++ [32]) = false)
    (hI9 : IntsAre vs9 (wsF (leadL r)).ns) (hks : KsAre w.params pks ks) (hlen : ks.length ≤ 128) (hszk : ∀ k ∈ ks, k.sv.toArray.size ≤ sizeLine) (hgt : ∀ p ∈ ledOf ks, @LT.lt Nat _ kd p.1 ∧ p.1 ≠ I) (hpw : (ledOf ks).Pairwise (fun p q => p.1 ≠ q.1))
    (hend : ∀ (f : Flow) (ks' : List KRec) (e2' : Nat) (oW' : Obj) (h' : Heap) (tk' : Nat) (m' : Str → Option Value) (news' : Led), f = .next ∨ f = .cont → Fr h₀ L h' m' → News h₀ L h' news' → (I, oI) ∈ news' → (∀ p ∈ (sy, listOf (sv).toArray e1) :: (kd, listOf ((ks').map fun k => Value.ref k.tup).toArray e2') :: (rw, listOf rv.toArray er) :: (pr, listOf pv.toArray ep) :: (L + 1 + 1 + 1 + 1 + 1, o5) :: (L + 1 + 1 + 1 + 1, oW') :: (L + 1 + 1 + 1, oR) :: (L + 1 + 1, o2) :: (L + 1, o1) :: (44, tabObj #[]) :: (37, tabObj #[]) :: ledOf ks', p ∈ news') →
      (∀ p ∈ ledOf ks', @LT.lt Nat _ kd p.1 ∧ p.1 ≠ I) → (ledOf ks').Pairwise (fun p q => p.1 ≠ q.1) → (∃ x, oW'.data = .cell x) → (∀ z, [Str.ofString "told", Str.ofString "symmetry", Str.ofString "counts", Str.ofString "behind", Str.ofString "blanks", Str.ofString "same"].contains z = false → m' z = (fun z => if z = Str.ofString "symmetry" then some (Value.int sym tsy) else if z = Str.ofString "symmetries" then some (Value.ref sy) else if z = Str.ofString "kinds" then some (.ref kd) else m z) z) → KsAre w.params (addK (leadL r) sym pks) ks' → Qf f { s with heap := h', toks := tk' }) :
    wpAny (model PySem.Challenge.pw_sr0065_01 w) (ktrTop dp un gd (Str.ofString "law") (lawScope w.params) L fa cd (cellsFrom (L + 1) (lawScope w.params).names []) outer) (execs (forBody (headS (lawBody w.params).tail.tail.tail.tail.tail.tail.tail.tail.tail.tail.tail)).tail.tail.tail.tail.tail.tail (lawEnv w.params L fa cd)) Qf E s :=
  Crowb.allq w p loose mean mg mb dp un gd fa cd outer A₀ base h₀ L m s E rw pr sy kd I x9 dx9 nm9 ct9 rv pv sv vs9 er ep e1 e2 o1 o2 o5 oR oW oI ks pks sg tb sym tsg ttb tr tsy tb9 tx9 tn9 tt9 k19 k29 k39 k49 k59 X9 si9 r Qf B F X T hC1 hC2 N hlt hd1 hu1 hpr hkd hIk hw9 hR9 d1 d2 dR dW hs3 hs8 ht1 hts hr1 f2 f3 f4 f5 f6 hI9 hks hlen hszk hgt hpw hend
end
-- LQ
theorem fresh_LQ : True := by
  w_top off
  exact trivial
section
section
variable {w : World} {p : Program} {loose : List Str} {mean : ExcName → Option Value} {mg mb : Str → Option Value}
end
namespace Crowturn
noncomputable def Pq (w : World) (p : Program) (loose : List Str) (mean : ExcName → Option Value) (mg : Str → Option Value) (mb : Str → Option Value) (dp : Nat) (un : Nat) (gd : Option (List Code)) (fa : Addr) (cd : Value) (outer : List Env) (A₀ : Around) (base : Heap) (h₀ : Heap) (L : Addr) (m : Str → Option Value) (s : Shared) (E : Value → Shared → Prop) (rw : Addr) (pr : Addr) (sy : Addr) (kd : Addr) (I : Addr) (rv : List Value) (pv : List Value) (sv : List Value) (er : Nat) (ep : Nat) (e1 : Nat) (e2 : Nat) (o1 : Obj) (o2 : Obj) (o5 : Obj) (oR : Obj) (oW : Obj) (oI : Obj) (xR : Option Value) (xW : Option Value) (ks : List KRec) (sys : List Int) (pks : List PK) (sg : Int) (tb : Int) (tsg : Tok) (ttb : Tok) (tr : Tok) (r : List Nat) (px : Pos) (Qf : Flow → Shared → Prop) : Prop := ∀ (B : Below A₀ base outer h₀) (F : Fr h₀ L s.heap (fun z => if z = Str.ofString "symmetries" then some (Value.ref sy) else if z = Str.ofString "kinds" then some (.ref kd) else m z)) (X : (hd.heap_39 w.params).In h₀) (T : Top p loose mean mg mb h₀) (hC1 : CodeHd h₀ 41 37) (hC2 : CodeHd h₀ 48 44) (N : News h₀ L s.heap ((I, oI) :: (sy, listOf (sv).toArray e1) :: (kd, listOf ((ks).map fun k => Value.ref k.tup).toArray e2) :: (rw, listOf rv.toArray er) :: (pr, listOf pv.toArray ep) :: (L + 1 + 1 + 1 + 1 + 1, o5) :: (L + 1 + 1 + 1 + 1, oW) :: (L + 1 + 1 + 1, oR) :: (L + 1 + 1, o2) :: (L + 1, o1) :: (44, tabObj #[]) :: (37, tabObj #[]) :: ledOf ks)) (hlt : @LT.lt Nat _ 44 L ∧ @LT.lt Nat _ 37 L) (hd1 : dp + 40 < recursionLimit) (hu1 : un + 600 < cLine) (hpr : @LT.lt Nat _ (L + 1 + 1 + 1 + 1 + 1) pr) (hkd : @LT.lt Nat _ sy kd ∧ @LT.lt Nat _ rw kd ∧ @LT.lt Nat _ pr kd ∧ @LT.lt Nat _ rw sy ∧ @LT.lt Nat _ pr sy ∧ True) (hrw : @Ne Nat rw (L + 1 + 1 + 1) ∧ @Ne Nat rw (L + 1 + 1 + 1 + 1)) (hIk : @LT.lt Nat _ kd I) (d1 : o1.data = .cell (some (.int sg tsg))) (d2 : o2.data = .cell (some (.int tb ttb))) (dR : oR.data = .cell xR) (dW : oW.data = .cell xW) (hs3 : 3 ≤ sg) (hs8 : sg ≤ 8) (ht1 : 1 ≤ tb) (hts : tb ≤ sg) (hr1 : RowOk sg.toNat r) (hgood : rowGood sg.toNat tb.toNat r = true) (hsv : IntsAre sv sys) (hks : KsAre w.params pks ks) (hlen : ks.length ≤ 128) (hszk : ∀ k ∈ ks, k.sv.toArray.size ≤ sizeLine) (hlen2 : sys.length ≤ 128) (hgt : ∀ p ∈ ledOf ks, @LT.lt Nat _ kd p.1 ∧ p.1 ≠ I) (hpw : (ledOf ks).Pairwise (fun p q => p.1 ≠ q.1)) (hend : ∀ (f : Flow) (sv' : List Value) (e1' : Nat) (ks' : List KRec) (e2' : Nat) (oR' oW' : Obj) (h' : Heap) (tk' : Nat) (m' : Str → Option Value) (news' : Led), f = .next ∨ f = .cont → Fr h₀ L h' m' → News h₀ L h' news' → (I, oI) ∈ news' → (∀ p ∈ (sy, listOf (sv').toArray e1') :: (kd, listOf ((ks').map fun k => Value.ref k.tup).toArray e2') :: (rw, listOf rv.toArray er) :: (pr, listOf pv.toArray ep) :: (L + 1 + 1 + 1 + 1 + 1, o5) :: (L + 1 + 1 + 1 + 1, oW') :: (L + 1 + 1 + 1, oR') :: (L + 1 + 1, o2) :: (L + 1, o1) :: (44, tabObj #[]) :: (37, tabObj #[]) :: ledOf ks', p ∈ news') →
      (∀ p ∈ ledOf ks', @LT.lt Nat _ kd p.1 ∧ p.1 ≠ I) → (ledOf ks').Pairwise (fun p q => p.1 ≠ q.1) → (∃ x, oR'.data = .cell x) → (∃ x, oW'.data = .cell x) → (∀ z, [Str.ofString "told", Str.ofString "symmetry", Str.ofString "counts", Str.ofString "behind", Str.ofString "blanks", Str.ofString "same"].contains z = false → m' z = (fun z => if z = Str.ofString "symmetries" then some (Value.ref sy) else if z = Str.ofString "kinds" then some (.ref kd) else m z) z) → IntsAre sv' (rowF sg.toNat (sys, pks) r).1 → KsAre w.params (rowF sg.toNat (sys, pks) r).2 ks' → Qf f { s with heap := h', toks := tk' }),
    wpAny (model PySem.Challenge.pw_sr0065_01 w) (ktrTop dp un gd (Str.ofString "law") (lawScope w.params) L fa cd (cellsFrom (L + 1) (lawScope w.params).names []) outer) (assign (.Name (Str.ofString "row") px) (lawEnv w.params L fa cd) (.str (toS r) tr)) (fun _ s₂ => wpAny (model PySem.Challenge.pw_sr0065_01 w) (ktrTop dp un gd (Str.ofString "law") (lawScope w.params) L fa cd (cellsFrom (L + 1) (lawScope w.params).names []) outer) (execs (forBody (headS (lawBody w.params).tail.tail.tail.tail.tail.tail.tail.tail.tail.tail.tail)) (lawEnv w.params L fa cd)) Qf E s₂) E s
noncomputable abbrev Tq : Type := ((((((World × Program) × ((List Str) × (ExcName → Option Value))) × (((Str → Option Value) × (Str → Option Value)) × Nat)) × (((Nat × (Option (List Code))) × Addr) × ((Value × (List Env)) × Around))) × ((((Heap × Heap) × Addr) × (((Str → Option Value) × Shared) × (Value → Shared → Prop))) × (((Addr × Addr) × Addr) × ((Addr × Addr) × (List Value))))) × ((((((List Value) × (List Value)) × (Nat × Nat)) × ((Nat × Nat) × Obj)) × (((Obj × Obj) × Obj) × ((Obj × Obj) × (Option Value)))) × (((((Option Value) × (List KRec)) × (List Int)) × (((List PK) × Int) × Int)) × (((Tok × Tok) × Tok) × (((List Nat) × Pos) × (Flow → Shared → Prop))))))
theorem exq : ∃ t : Tq, Pq t.1.1.1.1.1.1 t.1.1.1.1.1.2 t.1.1.1.1.2.1 t.1.1.1.1.2.2 t.1.1.1.2.1.1 t.1.1.1.2.1.2 t.1.1.1.2.2 t.1.1.2.1.1.1 t.1.1.2.1.1.2 t.1.1.2.1.2 t.1.1.2.2.1.1 t.1.1.2.2.1.2 t.1.1.2.2.2 t.1.2.1.1.1.1 t.1.2.1.1.1.2 t.1.2.1.1.2 t.1.2.1.2.1.1 t.1.2.1.2.1.2 t.1.2.1.2.2 t.1.2.2.1.1.1 t.1.2.2.1.1.2 t.1.2.2.1.2 t.1.2.2.2.1.1 t.1.2.2.2.1.2 t.1.2.2.2.2 t.2.1.1.1.1.1 t.2.1.1.1.1.2 t.2.1.1.1.2.1 t.2.1.1.1.2.2 t.2.1.1.2.1.1 t.2.1.1.2.1.2 t.2.1.1.2.2 t.2.1.2.1.1.1 t.2.1.2.1.1.2 t.2.1.2.1.2 t.2.1.2.2.1.1 t.2.1.2.2.1.2 t.2.1.2.2.2 t.2.2.1.1.1.1 t.2.2.1.1.1.2 t.2.2.1.1.2 t.2.2.1.2.1.1 t.2.2.1.2.1.2 t.2.2.1.2.2 t.2.2.2.1.1.1 t.2.2.2.1.1.2 t.2.2.2.1.2 t.2.2.2.2.1.1 t.2.2.2.2.1.2 t.2.2.2.2.2 → ∀ t : Tq, Pq t.1.1.1.1.1.1 t.1.1.1.1.1.2 t.1.1.1.1.2.1 t.1.1.1.1.2.2 t.1.1.1.2.1.1 t.1.1.1.2.1.2 t.1.1.1.2.2 t.1.1.2.1.1.1 t.1.1.2.1.1.2 t.1.1.2.1.2 t.1.1.2.2.1.1 t.1.1.2.2.1.2 t.1.1.2.2.2 t.1.2.1.1.1.1 t.1.2.1.1.1.2 t.1.2.1.1.2 t.1.2.1.2.1.1 t.1.2.1.2.1.2 t.1.2.1.2.2 t.1.2.2.1.1.1 t.1.2.2.1.1.2 t.1.2.2.1.2 t.1.2.2.2.1.1 t.1.2.2.2.1.2 t.1.2.2.2.2 t.2.1.1.1.1.1 t.2.1.1.1.1.2 t.2.1.1.1.2.1 t.2.1.1.1.2.2 t.2.1.1.2.1.1 t.2.1.1.2.1.2 t.2.1.1.2.2 t.2.1.2.1.1.1 t.2.1.2.1.1.2 t.2.1.2.1.2 t.2.1.2.2.1.1 t.2.1.2.2.1.2 t.2.1.2.2.2 t.2.2.1.1.1.1 t.2.2.1.1.1.2 t.2.2.1.1.2 t.2.2.1.2.1.1 t.2.2.1.2.1.2 t.2.2.1.2.2 t.2.2.2.1.1.1 t.2.2.2.1.1.2 t.2.2.2.1.2 t.2.2.2.2.1.1 t.2.2.2.2.1.2 t.2.2.2.2.2 := dk (α := Tq) (((((((aWorld 0, default), (default, (fun _ => default))), (((fun _ => default), (fun _ => default)), default)), (((default, default), default), ((default, default), ({} : Around)))), ((((default, default), default), (((fun _ => default), ({} : Shared)), (fun _ _ => True))), (((default, default), default), ((default, default), default)))), (((((default, default), (default, default)), ((default, default), default)), (((default, default), default), ((default, default), default))), ((((default, default), default), ((default, default), default)), (((default, default), default), ((default, default), (fun _ _ => True))))))) _
noncomputable def cq : Tq := Classical.choose exq
@[irreducible] noncomputable def w : World := cq.1.1.1.1.1.1
@[irreducible] noncomputable def p : Program := cq.1.1.1.1.1.2
@[irreducible] noncomputable def loose : List Str := cq.1.1.1.1.2.1
@[irreducible] noncomputable def mean : ExcName → Option Value := cq.1.1.1.1.2.2
@[irreducible] noncomputable def mg : Str → Option Value := cq.1.1.1.2.1.1
@[irreducible] noncomputable def mb : Str → Option Value := cq.1.1.1.2.1.2
@[irreducible] noncomputable def dp : Nat := cq.1.1.1.2.2
@[irreducible] noncomputable def un : Nat := cq.1.1.2.1.1.1
@[irreducible] noncomputable def gd : Option (List Code) := cq.1.1.2.1.1.2
@[irreducible] noncomputable def fa : Addr := cq.1.1.2.1.2
@[irreducible] noncomputable def cd : Value := cq.1.1.2.2.1.1
@[irreducible] noncomputable def outer : List Env := cq.1.1.2.2.1.2
@[irreducible] noncomputable def A₀ : Around := cq.1.1.2.2.2
@[irreducible] noncomputable def base : Heap := cq.1.2.1.1.1.1
@[irreducible] noncomputable def h₀ : Heap := cq.1.2.1.1.1.2
@[irreducible] noncomputable def L : Addr := cq.1.2.1.1.2
@[irreducible] noncomputable def m : Str → Option Value := cq.1.2.1.2.1.1
@[irreducible] noncomputable def s : Shared := cq.1.2.1.2.1.2
@[irreducible] noncomputable def E : Value → Shared → Prop := cq.1.2.1.2.2
@[irreducible] noncomputable def rw : Addr := cq.1.2.2.1.1.1
@[irreducible] noncomputable def pr : Addr := cq.1.2.2.1.1.2
@[irreducible] noncomputable def sy : Addr := cq.1.2.2.1.2
@[irreducible] noncomputable def kd : Addr := cq.1.2.2.2.1.1
@[irreducible] noncomputable def I : Addr := cq.1.2.2.2.1.2
@[irreducible] noncomputable def rv : List Value := cq.1.2.2.2.2
@[irreducible] noncomputable def pv : List Value := cq.2.1.1.1.1.1
@[irreducible] noncomputable def sv : List Value := cq.2.1.1.1.1.2
@[irreducible] noncomputable def er : Nat := cq.2.1.1.1.2.1
@[irreducible] noncomputable def ep : Nat := cq.2.1.1.1.2.2
@[irreducible] noncomputable def e1 : Nat := cq.2.1.1.2.1.1
@[irreducible] noncomputable def e2 : Nat := cq.2.1.1.2.1.2
@[irreducible] noncomputable def o1 : Obj := cq.2.1.1.2.2
@[irreducible] noncomputable def o2 : Obj := cq.2.1.2.1.1.1
@[irreducible] noncomputable def o5 : Obj := cq.2.1.2.1.1.2
@[irreducible] noncomputable def oR : Obj := cq.2.1.2.1.2
@[irreducible] noncomputable def oW : Obj := cq.2.1.2.2.1.1
@[irreducible] noncomputable def oI : Obj := cq.2.1.2.2.1.2
@[irreducible] noncomputable def xR : Option Value := cq.2.1.2.2.2
@[irreducible] noncomputable def xW : Option Value := cq.2.2.1.1.1.1
@[irreducible] noncomputable def ks : List KRec := cq.2.2.1.1.1.2
@[irreducible] noncomputable def sys : List Int := cq.2.2.1.1.2
@[irreducible] noncomputable def pks : List PK := cq.2.2.1.2.1.1
@[irreducible] noncomputable def sg : Int := cq.2.2.1.2.1.2
@[irreducible] noncomputable def tb : Int := cq.2.2.1.2.2
@[irreducible] noncomputable def tsg : Tok := cq.2.2.2.1.1.1
@[irreducible] noncomputable def ttb : Tok := cq.2.2.2.1.1.2
@[irreducible] noncomputable def tr : Tok := cq.2.2.2.1.2
@[irreducible] noncomputable def r : List Nat := cq.2.2.2.2.1.1
@[irreducible] noncomputable def px : Pos := cq.2.2.2.2.1.2
@[irreducible] noncomputable def Qf : Flow → Shared → Prop := cq.2.2.2.2.2
theorem coreq : Pq w p loose mean mg mb dp un gd fa cd outer A₀ base h₀ L m s E rw pr sy kd I rv pv sv er ep e1 e2 o1 o2 o5 oR oW oI xR xW ks sys pks sg tb tsg ttb tr r px Qf := by
  unfold Pq
  intro B F X T hC1 hC2 N hlt hd1 hu1 hpr hkd hrw hIk d1 d2 dR dW hs3 hs8 ht1 hts hr1 hgood hsv hks hlen hszk hlen2 hgt hpw hend
  dsimp only [lawBody, lawEnv, lawO, stmtsOf, lawScope, scopeOf, List.tail, forBody, asgVal, lcElt, lcGens, lcScope, eParts, sParts, headS, headG]
  have hrl : r.length = sg.toNat := hr1.1
  have hR3 : ∀ p ∈ ledOf ks, p.1 ≠ L + 1 + 1 + 1 := fun p hp => Nat.ne_of_gt (by have := (hgt p hp).1; omega)
  have hR4 : ∀ p ∈ ledOf ks, p.1 ≠ L + 1 + 1 + 1 + 1 := fun p hp => Nat.ne_of_gt (by have := (hgt p hp).1; omega)
  have hRs : ∀ p ∈ ledOf ks, p.1 ≠ sy := fun p hp => Nat.ne_of_gt (by have := (hgt p hp).1; omega)
  have hRk : ∀ p ∈ ledOf ks, p.1 ≠ kd := fun p hp => Nat.ne_of_gt (hgt p hp).1
  have hRI : ∀ p ∈ ledOf ks, p.1 ≠ I := fun p hp => (hgt p hp).2
  generalize hRR : ledOf ks = R at N hR3 hR4 hRs hRk hRI hgt hpw
  (try k_fold)
  walk_at "STEPS"
  (rename IsRange _ _ _ _ _ _ _ _ => rg9); (rename Fr _ _ _ _ => nF); (rename News _ _ _ _ => nN); (rename _ = Data.cell _ => dR9)
  (k_dflt (refine' told_block B nF X T hC1 hC2 nN hd1 hu1 ?m1 dR9 hrl ?n8 ?bb rg9 ?q1))
  case m1 => k_mem
  case n8 => omega
  case bb => omega
  case q1 =>
    intro D zs h tk hz F2 N2 oD1
    clear nF nN
    (try dsimp only)
    (try k_fold)
    walk_at "STEPS"
    · (rename (List.any _ _) = true => hany9)
      (show Qf Flow.cont _)
      subst hRR
      refine hend .cont sv e1 ks e2 _ oW _ _ _ _ (.inr rfl) (by k_asm) N2 (by k_mem) (by (((try dsimp only); (repeat (refine List.forall_mem_cons.mpr ⟨by k_mem, ?_⟩)); first | exact List.forall_mem_nil _ | walk_at "SUB"))) hgt hpw ⟨_, dR9⟩ ⟨_, dW⟩ (by ((intro zq47 h3q47; (simp only [List.contains_cons, List.contains_nil, Bool.or_false, Bool.or_eq_false_iff, beq_eq_false_iff_ne, ne_eq] at h3q47); simp [h3q47]))) ?_ ?_
      · rw [rowF_skip hany9]; exact hsv
      · rw [rowF_skip hany9]; exact hks
    · (rename (List.any _ _) = false => hany9); (rename _ + _ ≠ _ => hne9)
      have hf9 := (row_facts hgood hany9).1
      exact absurd (by omega) hne9
    (rename (List.any _ _) = false => hany9)
    obtain ⟨f1, f2, f3, f4, f5, f6⟩ := row_facts hgood hany9
    (rename Fr _ _ _ _ => nF); (rename News _ _ _ _ => nN)
    (k_dflt (refine' isi_block B nF X T hC1 hC2 nN hd1 hu1 ?m2 hz ?q2))
    case m2 => k_mem
    case q2 =>
      intro D2 h tk F3 N3 oD2
      clear nF nN
      (try dsimp only)
      (try k_fold)
      (repeat' ((fail_if_success (with_reducible first | (show Pre _) | (show wpAny _ _ (execs _ _) _ _ _) | (show TurnOk _ _ _ _ _ _ _ _ _ _ _) | (show wpAny _ _ (exec (Stmt.While _ _ _ _) _) _ _ _) | (show wpAny _ _ (pyIter _) _ _ _) | (show wpAny _ _ (call (Value.ref _) _) _ _ _))); walk_at "TRY"))
      (rename Fr _ _ _ _ => nF); (rename News _ _ _ _ => nN)
      have N5 := cb_drop (news := (I, oI) :: (sy, listOf (sv).toArray e1) :: (kd, listOf ((ks).map fun k => Value.ref k.tup).toArray e2) :: (rw, listOf rv.toArray er) :: (pr, listOf pv.toArray ep) :: (L + 1 + 1 + 1 + 1 + 1, o5) :: (L + 1 + 1 + 1 + 1, oW) :: (L + 1 + 1 + 1, _) :: (L + 1 + 1, o2) :: (L + 1, o1) :: (44, tabObj #[]) :: (37, tabObj #[]) :: R) nN (by (((try dsimp only); (repeat (refine List.forall_mem_cons.mpr ⟨by k_mem, ?_⟩)); first | exact List.forall_mem_nil _ | walk_at "SUB")))
      clear nN
      have hsz : sv.toArray.size ≤ sizeLine := by rw [List.size_toArray, hsv.length, sizeLine_eq]; omega
      (((try dsimp only); walk1; (try ((with_reducible show wpAny _ _ (execs _ _) _ _ _); walk1)); (repeat' ((fail_if_success (with_reducible first | (show Pre _) | (show wpAny _ _ (execs _ _) _ _ _) | (show TurnOk _ _ _ _ _ _ _ _ _ _ _) | (show wpAny _ _ (exec (Stmt.While _ _ _ _) _) _ _ _) | (show wpAny _ _ (pyIter _) _ _ _) | (show wpAny _ _ (call (Value.ref _) _) _ _ _))); walk_at "TRY"))))
      (((try dsimp only); walk1; (try ((with_reducible show wpAny _ _ (execs _ _) _ _ _); walk1)); (repeat' ((fail_if_success (with_reducible first | (show Pre _) | (show wpAny _ _ (execs _ _) _ _ _) | (show TurnOk _ _ _ _ _ _ _ _ _ _ _) | (show wpAny _ _ (exec (Stmt.While _ _ _ _) _) _ _ _) | (show wpAny _ _ (pyIter _) _ _ _) | (show wpAny _ _ (call (Value.ref _) _) _ _ _))); walk_at "TRY"))))
      · have hr1l : 1 ≤ r.length := by omega
        rw [slice_1, item_0 hr1l, show Str.ofString "x \t" = toS [120, 32, 9] by decide +kernel]
        (show wpAny _ _ (call _ [Value.str (toS (leadL r ++ 120 :: [32, 9])) _]) _ _ _)
        (k_dflt (refine' CallOkC.use (ws_new w p loose mean mg mb _ (leadL r) [32, 9] _ (lead_mem hr1) (by rw [lead_len]; omega)) ?k1 ?k2 ?k3 ?k4 ?k4s ?k5 ?k6 ?kc1 ?kc2 ?k7 ?k8 ?_))
        walk_at "KS"
        (case k4s => (intro p hp; exact hp))
        intro r9 n9 h9 tk9 F9 N9 hO9
        obtain ⟨x9, dx9, nm9, ct9, vs9, tx9, tn9, tt9, tb9, k19, k29, k39, k49, k59, si9, rfl, hI9, rfl, lt1, lt2, lt3, lt9⟩ := hO9
        have lt9' : ∀ p ∈ R, @LT.lt Nat _ p.1 dx9 := fun p hp => tb_ltOf lt9 p (by (repeat (refine List.Mem.tail _ ?_)); exact hp)
        simp only [AllLt, and_true] at lt9
        (try dsimp only)
        (try k_fold)
        (repeat' ((fail_if_success (with_reducible first | (show Pre _) | (show wpAny _ _ (execs _ _) _ _ _) | (show TurnOk _ _ _ _ _ _ _ _ _ _ _) | (show wpAny _ _ (exec (Stmt.While _ _ _ _) _) _ _ _) | (show wpAny _ _ (pyIter _) _ _ _) | (show wpAny _ _ (call (Value.ref _) _) _ _ _))); walk_at "TRY"))
        (first | (k_unfold; (try dsimp only)) | walk1 | (dsimp only; k_unfold) | (dsimp only; walk1))
        (try dsimp only)
        (rename Fr _ _ _ _ => F6); (rename News _ _ _ _ => N6); (simp only [List.push_toArray] at N6); (rename _ = Data.cell _ => dW9)
        have F7 := frN (Str.ofString "symmetry") (.int _ _) (frN (Str.ofString "symmetries") (.ref sy) (frN (Str.ofString "kinds") (.ref kd) F6 rfl) rfl) rfl
        subst hRR
        (k_dflt (refine' row_b B F7 X T hC1 hC2 N6 hlt hd1 hu1 hpr hkd hIk ⟨lt1, lt2, lt3, ?oI⟩ lt9' d1 d2 dR9 dW9 hs3 hs8 ht1 hts hr1 f2 f3 f4 f5 f6 hI9 hks hlen hszk hgt hpw ?hend))
        case oI => omega
        case hend =>
          intro f ks' e2' oW' h' tk' m' news' hf F8 N8 mI mL hgt' hpw' hW' hm' hk'
          refine hend f _ _ ks' e2' _ oW' h' tk' m' news' hf F8 N8 mI mL hgt' hpw' ⟨_, dR9⟩ hW' ?_ ?_ ?_
          · intro z h3
            rw [hm' z h3]
            (simp only [List.contains_cons, List.contains_nil, Bool.or_false, Bool.or_eq_false_iff, beq_eq_false_iff_ne, ne_eq] at h3)
            have q1 : Str.ofString "symmetries" ≠ Str.ofString "symmetry" := by decide
            have q2 : Str.ofString "kinds" ≠ Str.ofString "symmetry" := by decide
            have q3 : Str.ofString "kinds" ≠ Str.ofString "symmetries" := by decide
            by_cases hz1 : z = Str.ofString "symmetries" <;> by_cases hz2 : z = Str.ofString "kinds" <;> simp [h3, hz1, hz2, q1, q2, q3]
          · rw [rowF_go hany9]; exact ints_snoc hsv
          · rw [rowF_go hany9]; exact hk'
      · have hr1l : 1 ≤ r.length := by omega
        rw [slice_1, item_0 hr1l, show Str.ofString "x \t" = toS [120, 32, 9] by decide +kernel]
        (show (r.drop 1 ++ r.take 1).length + [120, 32, 9].length ≤ 2 ^ 20)
        rw [show r.drop 1 ++ r.take 1 = leadL r from rfl, lead_len]
        (show r.length + 3 ≤ _)
        omega
      · have hr1l : 1 ≤ r.length := by omega
        rw [slice_1, item_0 hr1l]
        (show (r.drop 1).length + (r.take 1).length ≤ 2 ^ 20)
        rw [List.length_drop, List.length_take]
        omega
theorem allq (w : World) (p : Program) (loose : List Str) (mean : ExcName → Option Value) (mg : Str → Option Value) (mb : Str → Option Value) (dp : Nat) (un : Nat) (gd : Option (List Code)) (fa : Addr) (cd : Value) (outer : List Env) (A₀ : Around) (base : Heap) (h₀ : Heap) (L : Addr) (m : Str → Option Value) (s : Shared) (E : Value → Shared → Prop) (rw : Addr) (pr : Addr) (sy : Addr) (kd : Addr) (I : Addr) (rv : List Value) (pv : List Value) (sv : List Value) (er : Nat) (ep : Nat) (e1 : Nat) (e2 : Nat) (o1 : Obj) (o2 : Obj) (o5 : Obj) (oR : Obj) (oW : Obj) (oI : Obj) (xR : Option Value) (xW : Option Value) (ks : List KRec) (sys : List Int) (pks : List PK) (sg : Int) (tb : Int) (tsg : Tok) (ttb : Tok) (tr : Tok) (r : List Nat) (px : Pos) (Qf : Flow → Shared → Prop) : Pq w p loose mean mg mb dp un gd fa cd outer A₀ base h₀ L m s E rw pr sy kd I rv pv sv er ep e1 e2 o1 o2 o5 oR oW oI xR xW ks sys pks sg tb tsg ttb tr r px Qf := by
  with_unfolding_all exact Classical.choose_spec exq coreq ((((((w, p), (loose, mean)), ((mg, mb), dp)), (((un, gd), fa), ((cd, outer), A₀))), ((((base, h₀), L), ((m, s), E)), (((rw, pr), sy), ((kd, I), rv)))), (((((pv, sv), (er, ep)), ((e1, e2), o1)), (((o2, o5), oR), ((oW, oI), xR))), ((((xW, ks), sys), ((pks, sg), tb)), (((tsg, ttb), tr), ((r, px), Qf)))))
end Crowturn
section
variable {w : World} {p : Program} {loose : List Str} {mean : ExcName → Option Value} {mg mb : Str → Option Value}
theorem row_turn {dp un : Nat} {gd : Option (List Code)} {fa : Addr} {cd : Value} {outer : List Env} {A₀ : Around} {base h₀ : Heap} {L : Addr} {m : Str → Option Value} {s : Shared} {E : Value → Shared → Prop} {rw pr sy kd I : Addr} {rv pv sv : List Value} {er ep e1 e2 : Nat} {o1 o2 o5 oR oW oI : Obj} {xR xW : Option Value} {ks : List KRec} {sys : List Int} {pks : List PK} {sg tb : Int} {tsg ttb tr : Tok} {r : List Nat} {px : Pos} {Qf : Flow → Shared → Prop}
    (B : Below A₀ base outer h₀) (F : Fr h₀ L s.heap (fun z => if z = Str.ofString "symmetries" then some (Value.ref sy) else if z = Str.ofString "kinds" then some (.ref kd) else m z)) (X : (hd.heap_39 w.params).In h₀) (T : Top p loose mean mg mb h₀) (hC1 : CodeHd h₀ 41 37) (hC2 : CodeHd h₀ 48 44)
    (N : News h₀ L s.heap ((I, oI) :: (sy, listOf (sv).toArray e1) :: (kd, listOf ((ks).map fun k => Value.ref k.tup).toArray e2) :: (rw, listOf rv.toArray er) :: (pr, listOf pv.toArray ep) :: (L + 1 + 1 + 1 + 1 + 1, o5) :: (L + 1 + 1 + 1 + 1, oW) :: (L + 1 + 1 + 1, oR) :: (L + 1 + 1, o2) :: (L + 1, o1) :: (44, tabObj #[]) :: (37, tabObj #[]) :: ledOf ks))
    (hlt : @LT.lt Nat _ 44 L ∧ @LT.lt Nat _ 37 L) (hd1 : dp + 40 < recursionLimit) (hu1 : un + 600 < cLine)
    (hpr : @LT.lt Nat _ (L + 1 + 1 + 1 + 1 + 1) pr) (hkd : @LT.lt Nat _ sy kd ∧ @LT.lt Nat _ rw kd ∧ @LT.lt Nat _ pr kd ∧ @LT.lt Nat _ rw sy ∧ @LT.lt Nat _ pr sy ∧ True) (hrw : @Ne Nat rw (L + 1 + 1 + 1) ∧ @Ne Nat rw (L + 1 + 1 + 1 + 1)) (hIk : @LT.lt Nat _ kd I)
    (d1 : o1.data = .cell (some (.int sg tsg))) (d2 : o2.data = .cell (some (.int tb ttb))) (dR : oR.data = .cell xR) (dW : oW.data = .cell xW)
    (hs3 : 3 ≤ sg) (hs8 : sg ≤ 8) (ht1 : 1 ≤ tb) (hts : tb ≤ sg) (hr1 : RowOk sg.toNat r) (hgood : rowGood sg.toNat tb.toNat r = true)
    (hsv : IntsAre sv sys) (hks : KsAre w.params pks ks) (hlen : ks.length ≤ 128) (hszk : ∀ k ∈ ks, k.sv.toArray.size ≤ sizeLine) (hlen2 : sys.length ≤ 128) (hgt : ∀ p ∈ ledOf ks, @LT.lt Nat _ kd p.1 ∧ p.1 ≠ I) (hpw : (ledOf ks).Pairwise (fun p q => p.1 ≠ q.1))
    (hend : ∀ (f : Flow) (sv' : List Value) (e1' : Nat) (ks' : List KRec) (e2' : Nat) (oR' oW' : Obj) (h' : Heap) (tk' : Nat) (m' : Str → Option Value) (news' : Led), f = .next ∨ f = .cont → Fr h₀ L h' m' → News h₀ L h' news' → (I, oI) ∈ news' → (∀ p ∈ (sy, listOf (sv').toArray e1') :: (kd, listOf ((ks').map fun k => Value.ref k.tup).toArray e2') :: (rw, listOf rv.toArray er) :: (pr, listOf pv.toArray ep) :: (L + 1 + 1 + 1 + 1 + 1, o5) :: (L + 1 + 1 + 1 + 1, oW') :: (L + 1 + 1 + 1, oR') :: (L + 1 + 1, o2) :: (L + 1, o1) :: (44, tabObj #[]) :: (37, tabObj #[]) :: ledOf ks', p ∈ news') →
      (∀ p ∈ ledOf ks', @LT.lt Nat _ kd p.1 ∧ p.1 ≠ I) → (ledOf ks').Pairwise (fun p q => p.1 ≠ q.1) → (∃ x, oR'.data = .cell x) → (∃ x, oW'.data = .cell x) → (∀ z, [Str.ofString "told", Str.ofString "symmetry", Str.ofString "counts", Str.ofString "behind", Str.ofString "blanks", Str.ofString "same"].contains z = false → m' z = (fun z => if z = Str.ofString "symmetries" then some (Value.ref sy) else if z = Str.ofString "kinds" then some (.ref kd) else m z) z) → IntsAre sv' (rowF sg.toNat (sys, pks) r).1 → KsAre w.params (rowF sg.toNat (sys, pks) r).2 ks' → Qf f { s with heap := h', toks := tk' }) :
    wpAny (model PySem.Challenge.pw_sr0065_01 w) (ktrTop dp un gd (Str.ofString "law") (lawScope w.params) L fa cd (cellsFrom (L + 1) (lawScope w.params).names []) outer) (assign (.Name (Str.ofString "row") px) (lawEnv w.params L fa cd) (.str (toS r) tr)) (fun _ s₂ => wpAny (model PySem.Challenge.pw_sr0065_01 w) (ktrTop dp un gd (Str.ofString "law") (lawScope w.params) L fa cd (cellsFrom (L + 1) (lawScope w.params).names []) outer) (execs (forBody (headS (lawBody w.params).tail.tail.tail.tail.tail.tail.tail.tail.tail.tail.tail)) (lawEnv w.params L fa cd)) Qf E s₂) E s :=
  Crowturn.allq w p loose mean mg mb dp un gd fa cd outer A₀ base h₀ L m s E rw pr sy kd I rv pv sv er ep e1 e2 o1 o2 o5 oR oW oI xR xW ks sys pks sg tb tsg ttb tr r px Qf B F X T hC1 hC2 N hlt hd1 hu1 hpr hkd hrw hIk d1 d2 dR dW hs3 hs8 ht1 hts hr1 hgood hsv hks hlen hszk hlen2 hgt hpw hend
end
end
-- M11
section
theorem addK_len (l : List Nat) (s : Int) : ∀ ks : List PK, (addK l s ks).length ≤ ks.length + 1
  | [] => by simp [addK]
  | k :: ks => by
    have := addK_len l s ks
    unfold addK
    split <;> simp <;> omega
theorem addK_each (l : List Nat) (s : Int) (n : Nat) : ∀ ks : List PK, (∀ k ∈ ks, k.2.length ≤ n) → ∀ k ∈ addK l s ks, k.2.length ≤ n + 1
  | [], _, k, h => by
    unfold addK at h
    rw [List.mem_singleton.mp h]
    simp
  | q :: ks, h0, k, h => by
    unfold addK at h
    split at h
    · rcases List.mem_cons.mp h with rfl | h
      · have := h0 q (.head _)
        simp; omega
      · exact Nat.le_succ_of_le (h0 k (.tail _ h))
    · rcases List.mem_cons.mp h with rfl | h
      · exact Nat.le_succ_of_le (h0 k (.head _))
      · exact addK_each l s n ks (fun k hk => h0 k (.tail _ hk)) k h
/-- what the row loop holds after i rows -/
noncomputable def rowsAt (n : Nat) (rows : List (List Nat)) (i : Nat) : List Int × List PK := (rows.take i).foldl (rowF n) ([], [])
theorem rowsAt_succ (n : Nat) (rows : List (List Nat)) {i : Nat} {r : List Nat} (h : rows[i]? = some r) : rowsAt n rows (i + 1) = rowF n (rowsAt n rows i) r := by
  unfold rowsAt
  rw [List.take_add_one, h]
  simp [List.foldl_append]
theorem rowsAt_len (n : Nat) (rows : List (List Nat)) : ∀ i, (rowsAt n rows i).1.length ≤ i ∧ (rowsAt n rows i).2.length ≤ i ∧ ∀ k ∈ (rowsAt n rows i).2, k.2.length ≤ i
  | 0 => ⟨Nat.le_refl _, Nat.le_refl _, fun k h => nomatch h⟩
  | i + 1 => by
    obtain ⟨a, b, c⟩ := rowsAt_len n rows i
    cases h : rows[i]? with
    | none =>
      have : rowsAt n rows (i + 1) = rowsAt n rows i := by
        unfold rowsAt
        rw [List.take_add_one, h]
        simp
      rw [this]
      exact ⟨by omega, by omega, fun k hk => Nat.le_succ_of_le (c k hk)⟩
    | some r =>
      rw [rowsAt_succ n rows h]
      unfold rowF
      split
      · exact ⟨by omega, by omega, fun k hk => Nat.le_succ_of_le (c k hk)⟩
      · refine ⟨by simp; omega, ?_, fun k hk => addK_each _ _ _ _ c k hk⟩
        have := addK_len (leadL r) (symL n r) (rowsAt n rows i).2
        show (addK _ _ _).length ≤ i + 1
        omega
end
-- M12
section
/-- one lot: what is divided, by what, the places, the symmetries -/
structure Lot where
  u : Int
  l : Int
  p : Int
  ss : List Int
noncomputable def lowK (W : Nat) (ns : List Int) : Int := ns.foldl (fun a c => a * prd W c.toNat) 1
noncomputable def lotK (W t : Nat) (p : Int) (pk : PK) : Lot := ⟨prd W t, lowK W (wsF pk.1).ns, p, pk.2⟩
noncomputable def lot0 (W n t : Nat) (p : Int) (s : List Int) : Lot := ⟨prd W n, prd W t * prd W (n - t), p, s⟩
inductive LotsAre (fixed : Led) : List Lot → Led → Prop
  | nil : LotsAre fixed [] []
  | cons {a : Lot} {as : List Lot} {l : Led} {T sm : Addr} {sv : List Value} {ep : Nat} {tu tl tp : Tok} : (sm, listOf sv.toArray ep) ∈ fixed → IntsAre sv a.ss → LotsAre fixed as l → LotsAre fixed (a :: as) ((T, tupO [.int a.u tu, .int a.l tl, .int a.p tp, .ref sm]) :: l)
theorem LotsAre.snoc {fixed : Led} {as : List Lot} {l : Led} (H : LotsAre fixed as l) {a : Lot} {T sm : Addr} {sv : List Value} {ep : Nat} {tu tl tp : Tok} (h1 : (sm, listOf sv.toArray ep) ∈ fixed) (h2 : IntsAre sv a.ss) : LotsAre fixed (as ++ [a]) (l ++ [(T, tupO [.int a.u tu, .int a.l tl, .int a.p tp, .ref sm])]) := by
  induction H with
  | nil => exact .cons h1 h2 .nil
  | cons x y c ih => exact .cons x y ih
theorem LotsAre.at {fixed : Led} {as : List Lot} {l : Led} (H : LotsAre fixed as l) : ∀ {i : Nat} {q : Addr × Obj}, l[i]? = some q → ∃ (a : Lot) (sm : Addr) (sv : List Value) (ep : Nat) (tu tl tp : Tok), as[i]? = some a ∧ q.2 = tupO [.int a.u tu, .int a.l tl, .int a.p tp, .ref sm] ∧ (sm, listOf sv.toArray ep) ∈ fixed ∧ IntsAre sv a.ss := by
  induction H with
  | nil => intro i q h; cases h
  | cons h1 h2 c ih =>
    intro i q h
    cases i with
    | zero => cases Option.some.inj h; exact ⟨_, _, _, _, _, _, _, rfl, rfl, h1, h2⟩
    | succ i => exact ih h
theorem LotsAre.length {fixed : Led} {as : List Lot} {l : Led} (H : LotsAre fixed as l) : as.length = l.length := by
  induction H with
  | nil => rfl
  | cons h1 h2 c ih => exact congrArg Nat.succ ih
noncomputable def nsOk (ns : List Int) (n : Nat) : Bool := ns.all (fun c => decide (0 ≤ c) && decide (c ≤ n)) && decide (ns.length ≤ 9)
theorem low_step (W : Nat) (ns : List Int) {i : Nat} {c : Int} (h : ns[i]? = some c) : lowK W (ns.take (i + 1)) = lowK W (ns.take i) * prd W c.toNat := by
  unfold lowK
  rw [List.take_add_one, h]
  simp [List.foldl_append]
theorem low_pos {W : Nat} (hW : 1 ≤ W) (ns : List Int) : 0 < lowK W ns := by
  unfold lowK
  suffices h : ∀ a : Int, 0 < a → 0 < ns.foldl (fun a c => a * prd W c.toNat) a from h 1 (by decide)
  induction ns with
  | nil => intro a h; exact h
  | cons c r ih => intro a h; exact ih _ (Int.mul_pos h (prd_pos hW _))
theorem low_le {W : Nat} (hW : 1 ≤ W) (ns : List Int) (hc : ∀ c ∈ ns, c.toNat ≤ 8) : lowK W ns ≤ 2 ^ (W * 36 * ns.length) := by
  unfold lowK
  suffices h : ∀ (a : Int) (k : Nat), 0 < a → a ≤ 2 ^ k → ns.foldl (fun a c => a * prd W c.toNat) a ≤ 2 ^ (k + W * 36 * ns.length) by
    have := h 1 0 (by decide) (by decide)
    rwa [Nat.zero_add] at this
  induction ns with
  | nil => intro a k _ h; exact h
  | cons c r ih =>
    intro a k ha h
    have h8 := tri_le (hc c (.head _))
    have hp : prd W c.toNat ≤ 2 ^ (W * 36) := Int.le_trans (prd_le hW _) (by
      have : W * tri c.toNat ≤ W * 36 := Nat.mul_le_mul_left _ h8
      obtain ⟨d, e⟩ := Nat.exists_eq_add_of_le this
      rw [e, Int.pow_add]
      have h1 := two_pow_pos (W * tri c.toNat)
      have h2 := two_pow_pos d
      have := Int.mul_le_mul_of_nonneg_left (show (1 : Int) ≤ 2 ^ d by omega) (Int.le_of_lt h1)
      rwa [Int.mul_one] at this)
    have := ih (fun c hc' => hc c (.tail _ hc')) (a * prd W c.toNat) (k + W * 36) (Int.mul_pos ha (prd_pos hW _)) (by
      rw [Int.pow_add]
      exact Int.mul_le_mul h hp (Int.le_of_lt (prd_pos hW _)) (Int.le_of_lt (two_pow_pos k)))
    rw [List.length_cons, Nat.mul_add, Nat.mul_one, ← Nat.add_assoc, Nat.add_right_comm]
    exact this
theorem low_bits {W : Nat} (hW : 1 ≤ W) (h2 : W ≤ 603) (ns : List Int) (hc : ∀ c ∈ ns, c.toNat ≤ 8) (hl : ns.length ≤ 9) : Builtin.Int.intBits (lowK W ns) ≤ 2 ^ 20 := by
  have h1 := low_le hW ns hc
  have h3 := low_pos hW ns
  have h4 : W * 36 * ns.length ≤ 603 * 36 * 9 := Nat.mul_le_mul (Nat.mul_le_mul_right _ h2) hl
  refine Nat.le_trans (intBits_le (Int.le_of_lt h3) (show lowK W ns < 2 ^ (W * 36 * ns.length + 1) by rw [Int.pow_succ]; have := two_pow_pos (W * 36 * ns.length); omega)) ?_
  have : (2 : Nat) ^ 20 = 1048576 := by decide
  omega
theorem kinds_ok : ∀ n, n < 9 → 3 ≤ n → ∀ t, t ≤ n → 1 ≤ t → (rowsAt n (rowsAll n t) (rowsAll n t).length).2.all (fun pk => nsOk (wsF pk.1).ns n) = true := by decide +kernel
theorem LotsAre.mono {f g : Led} (h : ∀ p ∈ f, p ∈ g) {as : List Lot} {l : Led} (H : LotsAre f as l) : LotsAre g as l := by
  induction H with
  | nil => exact .nil
  | cons a b c ih => exact .cons (h _ a) b ih
noncomputable def dueAt (ss : List Int) (i : Nat) : List Int := ss.filter fun x => (i : Int) % x == 0
noncomputable def dueL (p : Nat) (ss : List Int) : List Int := (List.range p).map fun i => ((dueAt ss i).length : Int)
theorem dueAt_take (ss : List Int) {j i : Nat} {x : Int} (h : ss[j]? = some x) : dueAt (ss.take (j + 1)) i = dueAt (ss.take j) i ++ (if (i : Int) % x == 0 then [x] else []) := by
  unfold dueAt
  rw [List.take_add_one, h]
  simp [List.filter_append, List.filter_cons]
end
-- P1
section
/-- the worth of a list of coefficients, the lowest first -/
noncomputable def pev (q : Int) : List Int → Int
  | [] => 0
  | c :: r => c + q * pev q r
noncomputable def padd : List Int → List Int → List Int
  | [], b => b
  | a :: r, [] => a :: r
  | a :: r, b :: t => (a + b) :: padd r t
noncomputable def pscl (c : Int) (l : List Int) : List Int := l.map (c * ·)
noncomputable def pmul : List Int → List Int → List Int
  | [], _ => []
  | a :: r, b => padd (pscl a b) (0 :: pmul r b)
theorem pev_add (q : Int) : ∀ a b, pev q (padd a b) = pev q a + pev q b
  | [], b => by simp [padd, pev]
  | a :: r, [] => by simp [padd, pev]
  | a :: r, b :: t => by simp only [padd, pev, pev_add q r t, Int.mul_add]; omega
theorem pev_scl (q c : Int) : ∀ l, pev q (pscl c l) = c * pev q l
  | [] => by simp [pscl, pev]
  | a :: r => by
    have := pev_scl q c r
    unfold pscl at *
    simp only [List.map_cons, pev, this, Int.mul_add]
    rw [← Int.mul_assoc, ← Int.mul_assoc, Int.mul_comm q c]
theorem pev_mul (q : Int) : ∀ a b, pev q (pmul a b) = pev q a * pev q b
  | [], b => by simp [pmul, pev]
  | a :: r, b => by
    simp only [pmul, pev_add, pev_scl, pev, pev_mul q r b, Int.add_mul, Int.zero_add]
    rw [Int.mul_assoc]
noncomputable def pmon : Nat → List Int
  | 0 => [1]
  | k + 1 => 0 :: pmon k
theorem pev_mon (q : Int) : ∀ k, pev q (pmon k) = q ^ k
  | 0 => by simp [pmon, pev]
  | k + 1 => by simp only [pmon, pev, pev_mon q k, Int.pow_succ, Int.zero_add]; rw [Int.mul_comm]
/-- the base to a power, less 1 -/
noncomputable def pX (k : Nat) : List Int := padd [-1] (pmon k)
theorem pev_X (W k : Nat) : pev (2 ^ W) (pX k) = 2 ^ (W * k) - 1 := by
  unfold pX
  rw [pev_add, pev_mon, Int.pow_mul]
  simp only [pev]; omega
noncomputable def pprd : Nat → List Int
  | 0 => [1]
  | k + 1 => pmul (pprd k) (pX (k + 1))
theorem pev_prd (W : Nat) : ∀ k, pev (2 ^ W) (pprd k) = prd W k
  | 0 => by simp [pprd, pev, prd]
  | k + 1 => by rw [pprd, pev_mul, pev_prd W k, pev_X, prd]
/-- a quotient by series, for a divisor that begins with 1 or -1 (a guess: what it gives is checked) -/
noncomputable def pdiv : Nat → List Int → List Int → List Int
  | 0, _, _ => []
  | _ + 1, [], _ => []
  | f + 1, a :: r, d => let c := a * d.headD 0; c :: pdiv f ((padd (a :: r) (pscl (-c) d)).drop 1) d
noncomputable def pzero (l : List Int) : Bool := l.all (· == 0)
theorem pev_zero (q : Int) : ∀ l, pzero l = true → pev q l = 0
  | [], _ => rfl
  | a :: r, h => by
    simp only [pzero, List.all_cons, Bool.and_eq_true, beq_iff_eq] at h
    rw [pev, h.1, pev_zero q r h.2]; omega
noncomputable def psub (a b : List Int) : List Int := padd a (pscl (-1) b)
theorem pev_eq (q : Int) {a b : List Int} (h : pzero (psub a b) = true) : pev q a = pev q b := by
  have := pev_zero q _ h
  unfold psub at this
  rw [pev_add, pev_scl] at this
  omega
/-- the lot's claim on coefficients -/
noncomputable def lotOk (up low : List Int) (p : Nat) (due : List Int) : Bool :=
  let quo := pdiv (up.length + 1) up low
  let m := pdiv (quo.length + 1) (psub quo due) (pX p)
  pzero (psub up (pmul low quo)) && pzero (psub quo (padd (pmul m (pX p)) due)) && due.all (fun c => decide (0 ≤ c) && decide (c ≤ 14)) && due.any (fun c => decide (1 ≤ c)) && decide (due.length = p)
theorem pev_nonneg {q : Int} (hq : 0 ≤ q) : ∀ {l : List Int}, (∀ c ∈ l, 0 ≤ c) → 0 ≤ pev q l
  | [], _ => Int.le_refl 0
  | a :: r, h => Int.add_nonneg (h a (.head _)) (Int.mul_nonneg hq (pev_nonneg hq fun c hc => h c (.tail _ hc)))
theorem pev_pos {q : Int} (hq : 0 < q) : ∀ {l : List Int}, (∀ c ∈ l, 0 ≤ c) → (∃ c ∈ l, 1 ≤ c) → 0 < pev q l
  | [], _, ⟨_, h, _⟩ => nomatch h
  | a :: r, h, ⟨c, hc, h1⟩ => by
    have ha := h a (.head _)
    have hr := pev_nonneg (Int.le_of_lt hq) (l := r) fun c hc => h c (.tail _ hc)
    have hm := Int.mul_nonneg (Int.le_of_lt hq) hr
    rw [pev]
    rcases List.mem_cons.mp hc with rfl | hc
    · omega
    · have := Int.mul_pos hq (pev_pos hq (l := r) (fun c hc => h c (.tail _ hc)) ⟨c, hc, h1⟩)
      omega
theorem pev_lt {q : Int} (hq : 16 ≤ q) : ∀ {l : List Int}, (∀ c ∈ l, 0 ≤ c ∧ c ≤ 14) → l ≠ [] → pev q l < q ^ l.length - 1
  | [], _, h => absurd rfl h
  | [a], h, _ => by
    have := h a (.head _)
    simp only [pev, List.length_cons, List.length_nil, Int.mul_zero]
    rw [Int.pow_succ, Int.pow_zero]
    omega
  | a :: b :: r, h, _ => by
    have ha := h a (.head _)
    have ih := pev_lt hq (l := b :: r) (fun c hc => h c (.tail _ hc)) (by simp)
    rw [pev, List.length_cons, Int.pow_succ]
    generalize pev q (b :: r) = x at *
    generalize q ^ (b :: r).length = y at *
    have : q * x ≤ q * (y - 2) := Int.mul_le_mul_of_nonneg_left (by omega) (by omega)
    rw [Int.mul_sub, Int.mul_comm q y] at this
    omega
theorem dig_pev {W : Nat} (hW : 4 ≤ W) : ∀ {l : List Int}, (∀ c ∈ l, 0 ≤ c ∧ c ≤ 14) → dig W l.length (pev (2 ^ W) l) = l
  | [], _ => rfl
  | a :: r, h => by
    have ha := h a (.head _)
    have hq : (16 : Int) ≤ 2 ^ W := Int.le_trans (show (16 : Int) ≤ 2 ^ 4 by decide) (by
      obtain ⟨d, rfl⟩ := Nat.exists_eq_add_of_le hW
      rw [Int.pow_add]
      have := Int.mul_le_mul_of_nonneg_left (show (1 : Int) ≤ 2 ^ d by have := two_pow_pos d; omega) (show (0 : Int) ≤ 2 ^ 4 by decide)
      omega)
    rw [List.length_cons, dig, pev]
    rw [Int.add_mul_emod_self_left, Int.emod_eq_of_lt ha.1 (by omega), Int.add_mul_ediv_left _ _ (by omega), Int.ediv_eq_zero_of_lt ha.1 (by omega), Int.zero_add, dig_pev hW fun c hc => h c (.tail _ hc)]
theorem lot_facts {W p : Nat} {up low due : List Int} (hW : 4 ≤ W) (hp : 1 ≤ p) (h : lotOk up low p due = true) (hu : 0 < pev (2 ^ W) up) (hl : 0 < pev (2 ^ W) low) :
    ∃ N : Int, pev (2 ^ W) up = pev (2 ^ W) low * N ∧ 0 ≤ N ∧ N % (2 ^ (W * p) - 1) = pev (2 ^ W) due ∧ 0 < pev (2 ^ W) due ∧ dig W p (pev (2 ^ W) due) = due := by
  unfold lotOk at h
  dsimp only at h
  generalize pdiv _ up low = quo at h
  generalize pdiv _ _ (pX p) = m at h
  simp only [Bool.and_eq_true, List.all_eq_true, List.any_eq_true, decide_eq_true_eq] at h
  obtain ⟨⟨⟨⟨h1, h2⟩, h3⟩, h4⟩, h5⟩ := h
  have hq : (16 : Int) ≤ 2 ^ W := Int.le_trans (show (16 : Int) ≤ 2 ^ 4 by decide) (by
    obtain ⟨d, rfl⟩ := Nat.exists_eq_add_of_le hW
    rw [Int.pow_add]
    have := Int.mul_le_mul_of_nonneg_left (show (1 : Int) ≤ 2 ^ d by have := two_pow_pos d; omega) (show (0 : Int) ≤ 2 ^ 4 by decide)
    omega)
  have e1 := pev_eq (2 ^ W) h1
  have e2 := pev_eq (2 ^ W) h2
  rw [pev_mul] at e1
  rw [pev_add, pev_mul, pev_X] at e2
  have a1 := pev_pos (q := 2 ^ W) (by omega) (fun c hc => (h3 c hc).1) h4
  have a2 := pev_lt hq h3 (by intro e; subst e; simp at h5; omega)
  rw [h5, ← Int.pow_mul] at a2
  have d := dig_pev hW h3
  rw [h5] at d
  refine ⟨pev (2 ^ W) quo, e1, ?_, ?_, a1, d⟩
  · have : 0 < pev (2 ^ W) low * pev (2 ^ W) quo := by omega
    rw [Int.mul_comm] at this
    exact Int.le_of_lt (Int.pos_of_mul_pos_left this hl)
  · rw [e2, Int.add_comm, Int.add_mul_emod_self_right]
    exact Int.emod_eq_of_lt (Int.le_of_lt a1) a2
end
-- P2
section
noncomputable def lowP (ns : List Int) : List Int := ns.foldl (fun a c => pmul a (pprd c.toNat)) [1]
noncomputable def symsOk (n : Nat) (ss : List Int) : Bool := ss.all fun x => decide (1 ≤ x) && decide (x ≤ n)
noncomputable def allOk (n t : Nat) : Bool :=
  let S := rowsAt n (rowsAll n t) (rowsAll n t).length
  lotOk (pprd n) (pmul (pprd t) (pprd (n - t))) n (dueL n S.1) && symsOk n S.1 &&
    S.2.all fun pk => lotOk (pprd t) (lowP (wsF pk.1).ns) t (dueL t pk.2) && symsOk n pk.2 && (wsF pk.1).ns.any fun c => decide (1 ≤ c)
theorem up_nil (P : Nat → Prop) : ∀ t, t ≤ 0 → 1 ≤ t → P t := fun _ a b => absurd (Nat.le_trans b a) (by decide)
theorem up_snoc {P : Nat → Prop} {k : Nat} (h : ∀ t, t ≤ k → 1 ≤ t → P t) (h1 : P (k + 1)) : ∀ t, t ≤ k + 1 → 1 ≤ t → P t :=
  fun t a b => (Nat.lt_or_eq_of_le a).elim (fun l => h t (Nat.le_of_lt_succ l) b) (fun e => e ▸ h1)
theorem to_nil (P : Nat → Prop) : ∀ n, n < 3 → 3 ≤ n → P n := fun n a b => absurd (Nat.lt_of_lt_of_le a b) (Nat.lt_irrefl n)
theorem to_snoc {P : Nat → Prop} {k : Nat} (h : ∀ n, n < k → 3 ≤ n → P n) (h1 : P k) : ∀ n, n < k + 1 → 3 ≤ n → P n :=
  fun n a b => (Nat.lt_or_eq_of_le (Nat.le_of_lt_succ a)).elim (fun l => h n l b) (fun e => e ▸ h1)
theorem ok31 : allOk 3 1 = true := by decide +kernel
theorem ok32 : allOk 3 2 = true := by decide +kernel
theorem ok33 : allOk 3 3 = true := by decide +kernel
theorem ok41 : allOk 4 1 = true := by decide +kernel
theorem ok42 : allOk 4 2 = true := by decide +kernel
theorem ok43 : allOk 4 3 = true := by decide +kernel
theorem ok44 : allOk 4 4 = true := by decide +kernel
theorem ok51 : allOk 5 1 = true := by decide +kernel
theorem ok52 : allOk 5 2 = true := by decide +kernel
theorem ok53 : allOk 5 3 = true := by decide +kernel
theorem ok54 : allOk 5 4 = true := by decide +kernel
theorem ok55 : allOk 5 5 = true := by decide +kernel
theorem ok61 : allOk 6 1 = true := by decide +kernel
theorem ok62 : allOk 6 2 = true := by decide +kernel
theorem ok63 : allOk 6 3 = true := by decide +kernel
theorem ok64 : allOk 6 4 = true := by decide +kernel
theorem ok65 : allOk 6 5 = true := by decide +kernel
theorem ok66 : allOk 6 6 = true := by decide +kernel
theorem ok71 : allOk 7 1 = true := by decide +kernel
theorem ok72 : allOk 7 2 = true := by decide +kernel
theorem ok73 : allOk 7 3 = true := by decide +kernel
theorem ok74 : allOk 7 4 = true := by decide +kernel
theorem ok75 : allOk 7 5 = true := by decide +kernel
theorem ok76 : allOk 7 6 = true := by decide +kernel
theorem ok77 : allOk 7 7 = true := by decide +kernel
theorem ok81 : allOk 8 1 = true := by decide +kernel
theorem ok82 : allOk 8 2 = true := by decide +kernel
theorem ok83 : allOk 8 3 = true := by decide +kernel
theorem ok84 : allOk 8 4 = true := by decide +kernel
theorem ok85 : allOk 8 5 = true := by decide +kernel
theorem ok86 : allOk 8 6 = true := by decide +kernel
theorem ok87 : allOk 8 7 = true := by decide +kernel
theorem ok88 : allOk 8 8 = true := by decide +kernel
theorem oks3 : ∀ t, t ≤ 3 → 1 ≤ t → allOk 3 t = true := up_snoc (up_snoc (up_snoc (up_nil _) ok31) ok32) ok33
theorem oks4 : ∀ t, t ≤ 4 → 1 ≤ t → allOk 4 t = true := up_snoc (up_snoc (up_snoc (up_snoc (up_nil _) ok41) ok42) ok43) ok44
theorem oks5 : ∀ t, t ≤ 5 → 1 ≤ t → allOk 5 t = true := up_snoc (up_snoc (up_snoc (up_snoc (up_snoc (up_nil _) ok51) ok52) ok53) ok54) ok55
theorem oks6 : ∀ t, t ≤ 6 → 1 ≤ t → allOk 6 t = true := up_snoc (up_snoc (up_snoc (up_snoc (up_snoc (up_snoc (up_nil _) ok61) ok62) ok63) ok64) ok65) ok66
theorem oks7 : ∀ t, t ≤ 7 → 1 ≤ t → allOk 7 t = true := up_snoc (up_snoc (up_snoc (up_snoc (up_snoc (up_snoc (up_snoc (up_nil _) ok71) ok72) ok73) ok74) ok75) ok76) ok77
theorem oks8 : ∀ t, t ≤ 8 → 1 ≤ t → allOk 8 t = true := up_snoc (up_snoc (up_snoc (up_snoc (up_snoc (up_snoc (up_snoc (up_snoc (up_nil _) ok81) ok82) ok83) ok84) ok85) ok86) ok87) ok88
theorem all_ok : ∀ n, n < 9 → 3 ≤ n → ∀ t, t ≤ n → 1 ≤ t → allOk n t = true :=
  to_snoc (to_snoc (to_snoc (to_snoc (to_snoc (to_snoc (to_nil (fun n => ∀ t, t ≤ n → 1 ≤ t → allOk n t = true)) oks3) oks4) oks5) oks6) oks7) oks8
theorem low_pev (W : Nat) (ns : List Int) : pev (2 ^ W) (lowP ns) = lowK W ns := by
  unfold lowP lowK
  suffices h : ∀ (a : List Int) (b : Int), pev (2 ^ W) a = b → pev (2 ^ W) (ns.foldl (fun a c => pmul a (pprd c.toNat)) a) = ns.foldl (fun a c => a * prd W c.toNat) b from h [1] 1 (by simp [pev])
  induction ns with
  | nil => intro a b h; exact h
  | cons c r ih => intro a b h; exact ih _ _ (by rw [pev_mul, pev_prd, h])
theorem prd_two {W k : Nat} (hW : 4 ≤ W) (hk : 1 ≤ k) : 2 ≤ prd W k := by
  obtain ⟨j, rfl⟩ : ∃ j, k = j + 1 := ⟨k - 1, by omega⟩
  have h1 := prd_pos (W := W) (by omega) j
  have h2 : (2 : Int) ^ 2 ≤ 2 ^ (W * (j + 1)) := pow_mono2 (by have : 4 * 1 ≤ W * (j + 1) := Nat.mul_le_mul hW (by omega); omega)
  rw [prd]
  have : prd W j * 2 ≤ prd W j * (2 ^ (W * (j + 1)) - 1) := Int.mul_le_mul_of_nonneg_left (by omega) (by omega)
  omega
theorem low_two {W : Nat} (hW : 4 ≤ W) (ns : List Int) (h : (ns.any fun c => decide (1 ≤ c)) = true) : 2 ≤ lowK W ns := by
  unfold lowK
  suffices g : ∀ a : Int, 1 ≤ a → (2 ≤ a ∨ (ns.any fun c => decide (1 ≤ c)) = true) → 2 ≤ ns.foldl (fun a c => a * prd W c.toNat) a from g 1 (by decide) (.inr h)
  clear h
  induction ns with
  | nil => intro a h1 h; rcases h with h | h; exact h; cases h
  | cons c r ih =>
    intro a h1 h
    have hp := prd_pos (W := W) (by omega) c.toNat
    have hm : a * 1 ≤ a * prd W c.toNat := Int.mul_le_mul_of_nonneg_left (by omega) (by omega)
    refine ih _ (show 1 ≤ a * prd W c.toNat by omega) ?_
    rcases h with h | h
    · exact .inl (show 2 ≤ a * prd W c.toNat by omega)
    · rw [List.any_cons, Bool.or_eq_true, decide_eq_true_eq] at h
      rcases h with h | h
      · have h2 := prd_two hW (show 1 ≤ c.toNat by omega)
        have : a * 2 ≤ a * prd W c.toNat := Int.mul_le_mul_of_nonneg_left h2 (by omega)
        exact .inl (show 2 ≤ a * prd W c.toNat by omega)
      · exact .inr h
/-- what the figures of a lot want -/
noncomputable def LotGood (W : Nat) (a : Lot) : Prop := ∃ N A : Int, 1 < a.l ∧ a.u = a.l * N ∧ 0 ≤ N ∧ (1 ≤ a.p ∧ a.p ≤ 8) ∧ N % (2 ^ (W * a.p.toNat) - 1) = A ∧ 0 < A ∧ Builtin.Int.intBits a.l ≤ 22000 ∧ Builtin.Int.intBits a.u ≤ 22000 ∧ dig W a.p.toNat A = dueL a.p.toNat a.ss ∧ (∀ x ∈ a.ss, 1 ≤ x ∧ x ≤ 8) ∧ a.ss.length ≤ 128
theorem lot_good {W p : Nat} {a : Lot} {up low : List Int} (hW : 4 ≤ W) (hp : 1 ≤ p) (hp8 : p ≤ 8) (hap : a.p = (p : Int)) (hu : pev (2 ^ W) up = a.u) (hl : pev (2 ^ W) low = a.l) (h : lotOk up low p (dueL p a.ss) = true)
    (hu0 : 0 < a.u) (hub : Builtin.Int.intBits a.u ≤ 22000) (hl2 : 2 ≤ a.l) (hs : ∀ x ∈ a.ss, 1 ≤ x ∧ x ≤ 8) (hsl : a.ss.length ≤ 128) : LotGood W a := by
  obtain ⟨N, e1, h0, e2, h1, e3⟩ := lot_facts hW hp h (by omega) (by omega)
  rw [hu, hl] at e1
  have hpn : a.p.toNat = p := by omega
  refine ⟨N, _, by omega, e1, h0, by omega, by rw [hpn]; exact e2, h1, ?_, hub, by rw [hpn]; exact e3, hs, hsl⟩
  have hN : 1 ≤ N := by
    rcases Int.lt_or_le 0 N with h | h
    · omega
    · have : N = 0 := by omega
      rw [this] at e1; omega
  exact Nat.le_trans (intBits_mono (by omega) (by rw [e1]; have := Int.mul_le_mul_of_nonneg_left hN (show 0 ≤ a.l by omega); omega)) hub
theorem syms_le {n : Nat} {ss : List Int} (hn : n ≤ 8) (h : symsOk n ss = true) : ∀ x ∈ ss, 1 ≤ x ∧ x ≤ 8 := by
  intro x hx
  have := List.all_eq_true.mp h x hx
  simp only [Bool.and_eq_true, decide_eq_true_eq] at this
  omega
theorem lots_good {W n t : Nat} {S : List Int × List PK} (hW : 4 ≤ W) (hW2 : W ≤ 603) (h3 : 3 ≤ n) (h8 : n ≤ 8) (ht : 1 ≤ t) (htn : t ≤ n) (hS : S = rowsAt n (rowsAll n t) (rowsAll n t).length) :
    ∀ a ∈ lot0 W n t (n : Int) S.1 :: S.2.map (lotK W t (t : Int)), LotGood W a := by
  have h := all_ok n (by omega) h3 t htn ht
  unfold allOk at h
  rw [← hS] at h
  dsimp only at h
  simp only [Bool.and_eq_true, List.all_eq_true] at h
  obtain ⟨⟨h1, h2⟩, h5⟩ := h
  have hlr : (rowsAll n t).length ≤ 128 := Nat.le_trans (rowsN_len _ _ _) (show 2 ^ (n - 1) ≤ 2 ^ 7 from Nat.pow_le_pow_right (by decide) (by omega))
  obtain ⟨z1, _, z3⟩ := rowsAt_len n (rowsAll n t) (rowsAll n t).length
  rw [← hS] at z1 z3
  intro a ha
  rcases List.mem_cons.mp ha with rfl | ha
  · have q1 := prd_two (W := W) hW ht
    have q2 := prd_pos (W := W) (by omega) (n - t)
    have : prd W t * 1 ≤ prd W t * prd W (n - t) := Int.mul_le_mul_of_nonneg_left (by omega) (by omega)
    exact lot_good hW (by omega) h8 rfl (pev_prd W n) (by rw [pev_mul, pev_prd, pev_prd]; rfl) h1 (prd_pos (by omega) n) (prd_bits (by omega) hW2 h8) (by show 2 ≤ prd W t * prd W (n - t); omega) (syms_le h8 h2) (by show S.1.length ≤ 128; omega)
  · obtain ⟨pk, hpk, rfl⟩ := List.mem_map.mp ha
    obtain ⟨⟨k1, k2⟩, k3⟩ := h5 pk hpk
    exact lot_good hW ht (by omega) rfl (pev_prd W t) (low_pev W _) k1 (prd_pos (by omega) t) (prd_bits (by omega) hW2 (by omega)) (low_two hW _ k3) (syms_le h8 k2) (Nat.le_trans (z3 pk hpk) hlr)
end
-- LX1
theorem fresh_LX1 : True := by
  w_top off
  exact trivial
section
section
variable {w : World} {p : Program} {loose : List Str} {mean : ExcName → Option Value} {mg mb : Str → Option Value}
theorem duin_emit {dp un : Nat} {gd : Option (List Code)} {fa : Addr} {cd : Value} {outer : List Env} {A₀ : Around} {base h₀ : Heap} {L : Addr} {m : Str → Option Value} {s : Shared} {E : Value → Shared → Prop} {C D I c C2 : Addr} {oI oC oc : Obj} {mC : Str → Option Value} {zs : List Value} {R : Led} {i : Nat} {x : Int} {ti tx : Tok} {bs : List Int}
    (B : Below A₀ base outer h₀) (F : Fr h₀ L s.heap m) (X : (hd.heap_39 w.params).In h₀) (T : Top p loose mean mg mb h₀) (hC1 : CodeHd h₀ 41 37) (hC2 : CodeHd h₀ 48 44)
    (N : News h₀ L s.heap ((I, oI) :: (C, oC) :: (D, LCg.lst zs) :: (c, oc) :: R))
    (hd1 : dp + 40 < recursionLimit) (hu1 : un + 600 < cLine)
    (hC : LCg.NsObj oC mC) (off : LCg.Off3 I C D ((c, oc) :: R)) (ne : (@Ne Nat I C) ∧ (@Ne Nat I D) ∧ (@Ne Nat C D)) (hc : oc.data = .cell (some (.int (0 + (i : Int)) ti))) (ha : mC (Str.ofString "one") = some (.int x tx)) (hx : 1 ≤ x ∧ x ≤ 8)
    (hz : IntsAre zs bs) (hsz : zs.length ≤ sizeLine) :
    Emit PySem.Challenge.pw_sr0065_01 w (ktrTop dp un gd (Str.ofString "law") (lawScope w.params) L fa cd (cellsFrom (L + 1) (lawScope w.params).names []) outer) (compEnvC (lcScope (callArg (lcElt (asgVal (headS (forBody (headS (lawBody w.params).tail.tail.tail.tail.tail.tail.tail.tail.tail.tail.tail.tail.tail.tail))))))) [(Str.ofString "place", c)] C (compEnvC (lcScope (asgVal (headS (forBody (headS (lawBody w.params).tail.tail.tail.tail.tail.tail.tail.tail.tail.tail.tail.tail.tail.tail))))) [(Str.ofString "place", c), (Str.ofString "some", L + 1 + 1 + 1 + 1 + 1)] C2 (lawEnv w.params L fa cd))) (lcElt (callArg (lcElt (asgVal (headS (forBody (headS (lawBody w.params).tail.tail.tail.tail.tail.tail.tail.tail.tail.tail.tail.tail.tail.tail))))))) (headG (lcGens (callArg (lcElt (asgVal (headS (forBody (headS (lawBody w.params).tail.tail.tail.tail.tail.tail.tail.tail.tail.tail.tail.tail.tail.tail)))))))).ifs (.ref D) E s
      (CEnd h₀ L m s I oI C D id (fun _ => (c, oc) :: R) (fun _ => True) (fun q => IntsAre q (bs ++ if (i : Int) % x == 0 then [x] else []))) := by
  dsimp only [lawBody, lawEnv, lawO, stmtsOf, lawScope, scopeOf, List.tail, forBody, asgVal, lcElt, lcGens, lcScope, eParts, sParts, headS, headG, callArg, headE]
  (k_dflt (refine' emit_one ne hsz ?_))
  walk_at "STEPS"
  · exact ⟨by omega, by omega⟩
  · have e : ((i : Int) % x == 0) = true := by (rename (_ + _) % _ = _ => hq9); simpa using hq9
    refine CEl.intro (zs ++ [_]) (by k_asm) hC trivial (by k_asm) (fun p hp => hp) off ⟨rfl, ?_⟩
    rw [if_pos e]
    exact ints_snoc hz
  · have e : ¬ ((i : Int) % x == 0) = true := by (rename (_ + _) % _ ≠ _ => hq9); simpa using hq9
    refine CEnd.intro zs (by k_asm) hC trivial (by k_asm) (fun p hp => hp) off ?_
    rw [if_neg e, List.append_nil]
    exact hz
/-- the inner comprehension of due: the symmetries that divide the place -/
theorem duin_block {dp un : Nat} {gd : Option (List Code)} {fa : Addr} {cd : Value} {outer : List Env} {A₀ : Around} {base h₀ : Heap} {L : Addr} {m : Str → Option Value} {s : Shared} {E : Value → Shared → Prop} {Q : Value → Shared → Prop} {news : Led} {sm c C2 : Addr} {oc : Obj} {vs : List Value} {ss : List Int} {ep i : Nat} {ti : Tok}
    (B : Below A₀ base outer h₀) (F : Fr h₀ L s.heap m) (X : (hd.heap_39 w.params).In h₀) (T : Top p loose mean mg mb h₀) (hC1 : CodeHd h₀ 41 37) (hC2 : CodeHd h₀ 48 44) (N : News h₀ L s.heap news)
    (hd1 : dp + 40 < recursionLimit) (hu1 : un + 600 < cLine) (hm : (sm, listOf vs.toArray ep) ∈ news) (hmc : (c, oc) ∈ news) (hc : oc.data = .cell (some (.int (0 + (i : Int)) ti))) (hI : IntsAre vs ss) (hss : ∀ x ∈ ss, 1 ≤ x ∧ x ≤ 8) (hl : ss.length ≤ 128)
    (hQ : ∀ D zs h tk, IntsAre zs (dueAt ss i) → Fr h₀ L h m → News h₀ L h ((D, LCg.lst zs) :: news) → LCg.Off1 D news → Q (.ref D) { s with heap := h, toks := tk }) :
    LcAt PySem.Challenge.pw_sr0065_01 w (ktrTop dp un gd (Str.ofString "law") (lawScope w.params) L fa cd (cellsFrom (L + 1) (lawScope w.params).names []) outer) E (compEnvC (lcScope (asgVal (headS (forBody (headS (lawBody w.params).tail.tail.tail.tail.tail.tail.tail.tail.tail.tail.tail.tail.tail.tail))))) [(Str.ofString "place", c), (Str.ofString "some", L + 1 + 1 + 1 + 1 + 1)] C2 (lawEnv w.params L fa cd)) (callArg (lcElt (asgVal (headS (forBody (headS (lawBody w.params).tail.tail.tail.tail.tail.tail.tail.tail.tail.tail.tail.tail.tail.tail)))))) (lcScope (callArg (lcElt (asgVal (headS (forBody (headS (lawBody w.params).tail.tail.tail.tail.tail.tail.tail.tail.tail.tail.tail.tail.tail.tail))))))) [(Str.ofString "place", c)] none Q (.ref sm) s := by
  have N2 : News h₀ L s.heap ((c, oc) :: news) := List.forall_mem_cons.mpr ⟨N _ hmc, N⟩
  dsimp only [lawBody, lawEnv, lawO, stmtsOf, lawScope, scopeOf, List.tail, forBody, asgVal, lcElt, lcGens, lcScope, eParts, sParts, headS, headG, callArg, headE]
  (k_dflt (refine' lc1_list (σ := List Value) (vs := vs) (k := ep) id (fun _ => (c, oc) :: news) (fun j zs => IntsAre zs (dueAt (ss.take j) i)) [] rfl (by decide) rfl rfl F N2 (fun _ => .tail _ hm) rfl .nil ?turnA ?rrA))
  case turnA =>
    intro j v zs h tk I C D oI oC mC E' hj hv hz hC hx F2 N3 off ne
    obtain ⟨x, t, rfl, hxj⟩ := hI.at j v hv
    have hzl : zs.length ≤ 128 := by
      rw [hz.length]; refine Nat.le_trans (List.length_filter_le _ _) ?_; rw [List.length_take]; omega
    refine Emit.mono (fun s' h => CEnd.mono h fun q hq => ?_) (duin_emit B F2 X T hC1 hC2 N3 hd1 hu1 hC off ne hc hx (hss x (List.mem_of_getElem? hxj)) hz (by rw [sizeLine_eq]; (show zs.length ≤ _); omega))
    rw [dueAt_take ss hxj]
    exact hq
  case rrA =>
    (refine rr_eval ?_)
    rintro D zs h tk hz F2 N3 o1
    rw [hI.length, List.take_length] at hz
    exact hQ D zs h tk hz F2 (fun p hp => N3 p (by rcases List.mem_cons.mp hp with rfl | hp; exact .head _; exact .tail _ (.tail _ hp))) o1.2
end
end
-- LX2
theorem fresh_LX2 : True := by
  w_top off
  exact trivial
section
section
variable {w : World} {p : Program} {loose : List Str} {mean : ExcName → Option Value} {mg mb : Str → Option Value}
theorem due_emit {dp un : Nat} {gd : Option (List Code)} {fa : Addr} {cd : Value} {outer : List Env} {A₀ : Around} {base h₀ : Heap} {L : Addr} {m : Str → Option Value} {s : Shared} {E : Value → Shared → Prop} {C D I c : Addr} {oI oC oc o5 : Obj} {mC : Str → Option Value} {zs : List Value} {R : Led} {i : Nat} {ti : Tok} {bs : List Int} {sm : Addr} {vs : List Value} {ss : List Int} {ep : Nat}
    (B : Below A₀ base outer h₀) (F : Fr h₀ L s.heap m) (X : (hd.heap_39 w.params).In h₀) (T : Top p loose mean mg mb h₀) (hC1 : CodeHd h₀ 41 37) (hC2 : CodeHd h₀ 48 44)
    (N : News h₀ L s.heap ((I, oI) :: (C, oC) :: (D, LCg.lst zs) :: (c, oc) :: (L + 1 + 1 + 1 + 1 + 1, o5) :: (sm, listOf vs.toArray ep) :: R))
    (hd1 : dp + 40 < recursionLimit) (hu1 : un + 600 < cLine)
    (hC : LCg.NsObj oC mC) (off : LCg.Off3 I C D ((c, oc) :: (L + 1 + 1 + 1 + 1 + 1, o5) :: (sm, listOf vs.toArray ep) :: R)) (ne : (@Ne Nat I C) ∧ (@Ne Nat I D) ∧ (@Ne Nat C D)) (hc : oc.data = .cell (some (.int (0 + (i : Int)) ti))) (d5 : o5.data = .cell (some (.ref sm)))
    (hI : IntsAre vs ss) (hss : ∀ x ∈ ss, 1 ≤ x ∧ x ≤ 8) (hl : ss.length ≤ 128) (hz : IntsAre zs bs) (hsz : zs.length ≤ sizeLine) :
    Emit PySem.Challenge.pw_sr0065_01 w (ktrTop dp un gd (Str.ofString "law") (lawScope w.params) L fa cd (cellsFrom (L + 1) (lawScope w.params).names []) outer) (compEnvC (lcScope (asgVal (headS (forBody (headS (lawBody w.params).tail.tail.tail.tail.tail.tail.tail.tail.tail.tail.tail.tail.tail.tail))))) [(Str.ofString "place", c), (Str.ofString "some", L + 1 + 1 + 1 + 1 + 1)] C (lawEnv w.params L fa cd)) (lcElt (asgVal (headS (forBody (headS (lawBody w.params).tail.tail.tail.tail.tail.tail.tail.tail.tail.tail.tail.tail.tail.tail))))) [] (.ref D) E s
      (CEnd h₀ L m s I oI C D id (fun _ => (c, oc) :: (L + 1 + 1 + 1 + 1 + 1, o5) :: (sm, listOf vs.toArray ep) :: R) (fun _ => True) (fun q => IntsAre q (bs ++ [((dueAt ss i).length : Int)]))) := by
  dsimp only [lawBody, lawEnv, lawO, stmtsOf, lawScope, scopeOf, List.tail, forBody, asgVal, lcElt, lcGens, lcScope, eParts, sParts, headS, headG, callArg, headE]
  (k_dflt (refine' emit_nil ne hsz ?_))
  walk_at "STEPS"
  (k_dflt (refine' duin_block B F X T hC1 hC2 N hd1 hu1 ?m1 ?m2 hc hI hss hl ?q))
  case m1 => k_mem
  case m2 => k_mem
  case q =>
    intro D2 ys h tk hy F2 N2 oD2
    have hyl : ys.length ≤ 128 := by
      rw [hy.length]; exact Nat.le_trans (List.length_filter_le _ _) hl
    (try dsimp only)
    (try k_fold)
    walk_at "STEPS"
    refine kun_lenL (k := ((dueAt ss i).length : Int)) (items := ys.toArray) ⟨_, (N2 (D2, LCg.lst ys) (.head _)).1, rfl, _, rfl⟩ (by rw [List.size_toArray, hy.length]) (by rw [hy.length] at hyl; omega) ?_
    exact CEl.intro (zs ++ [_]) F2 hC trivial N2 (fun p hp => .tail _ hp) off ⟨rfl, ints_snoc hz⟩
/-- the outer comprehension of due -/
theorem due_block {dp un : Nat} {gd : Option (List Code)} {fa : Addr} {cd : Value} {outer : List Env} {A₀ : Around} {base h₀ : Heap} {L : Addr} {m : Str → Option Value} {s : Shared} {E : Value → Shared → Prop} {Q : Value → Shared → Prop} {news : Led} {sm rg : Addr} {o5 : Obj} {vs : List Value} {ss : List Int} {ep pl : Nat} {t₁ t₂ t₃ : Tok} {b : Int} {pz : Pos}
    (B : Below A₀ base outer h₀) (F : Fr h₀ L s.heap m) (X : (hd.heap_39 w.params).In h₀) (T : Top p loose mean mg mb h₀) (hC1 : CodeHd h₀ 41 37) (hC2 : CodeHd h₀ 48 44) (N : News h₀ L s.heap news)
    (hd1 : dp + 40 < recursionLimit) (hu1 : un + 600 < cLine) (hm : (sm, listOf vs.toArray ep) ∈ news) (h5 : (L + 1 + 1 + 1 + 1 + 1, o5) ∈ news) (d5 : o5.data = .cell (some (.ref sm)))
    (hI : IntsAre vs ss) (hss : ∀ x ∈ ss, 1 ≤ x ∧ x ≤ 8) (hl : ss.length ≤ 128) (hp8 : pl ≤ 8) (hb : b = pl) (rgX : IsRange s.heap rg 0 b 1 t₁ t₂ t₃)
    (hQ : ∀ D zs h tk, IntsAre zs (dueL pl ss) → Fr h₀ L h (fun z => if z = Str.ofString "due" then some (.ref D) else m z) → News h₀ L h ((D, LCg.lst zs) :: news) → LCg.Off1 D news → Q .none { s with heap := h, toks := tk }) :
    LcAt PySem.Challenge.pw_sr0065_01 w (ktrTop dp un gd (Str.ofString "law") (lawScope w.params) L fa cd (cellsFrom (L + 1) (lawScope w.params).names []) outer) E (lawEnv w.params L fa cd) (asgVal (headS (forBody (headS (lawBody w.params).tail.tail.tail.tail.tail.tail.tail.tail.tail.tail.tail.tail.tail.tail)))) (lcScope (asgVal (headS (forBody (headS (lawBody w.params).tail.tail.tail.tail.tail.tail.tail.tail.tail.tail.tail.tail.tail.tail))))) [(Str.ofString "some", L + 1 + 1 + 1 + 1 + 1)] (some (assign (.Name (Str.ofString "due") pz) (lawEnv w.params L fa cd))) Q (.ref rg) s := by
  subst hb
  have N2 : News h₀ L s.heap ((L + 1 + 1 + 1 + 1 + 1, o5) :: (sm, listOf vs.toArray ep) :: news) := List.forall_mem_cons.mpr ⟨N _ h5, List.forall_mem_cons.mpr ⟨N _ hm, N⟩⟩
  dsimp only [lawBody, lawEnv, lawO, stmtsOf, lawScope, scopeOf, List.tail, forBody, asgVal, lcElt, lcGens, lcScope, eParts, sParts, headS, headG, callArg, headE]
  (k_dflt (refine' lc_cell (n := pl) (Lg := (L + 1 + 1 + 1 + 1 + 1, o5) :: (sm, listOf vs.toArray ep) :: news) (fun k zs => IntsAre zs (dueL k ss)) rfl rfl (fun _ => rfl) (fun _ => rfl) rfl rgX (small_one (by decide) (by decide) (by omega) (by omega)) (by rw [rangeSize1]; simp) F N2 .nil ?turnA ?rrA))
  case turnA =>
    intro i t zs h tk I C c D oI oC oc mC E' hi hz hC hc F2 N3 off ne hcn
    have hzl := hz.length
    unfold dueL at hzl
    rw [List.length_map, List.length_range] at hzl
    refine Emit.mono (fun s' h => CEnd.mono h fun q hq => ?_) (due_emit B F2 X T hC1 hC2 N3 hd1 hu1 hC off ne hc d5 hI hss hl hz (by rw [sizeLine_eq]; (show zs.length ≤ _); omega))
    have e : dueL (i + 1) ss = dueL i ss ++ [((dueAt ss i).length : Int)] := by unfold dueL; simp [List.range_succ]
    rw [e]
    exact hq
  case rrA =>
    (k_dflt (refine' rr_assign ?e1 ?e2 ?e3 ?_; (case e1 => rfl); (case e2 => rfl); (case e3 => rfl)))
    intro D zs h tk hz F2 N3 o1
    exact hQ D zs h tk hz F2 (fun p hp => N3 p (by rcases List.mem_cons.mp hp with rfl | hp; exact .head _; exact .tail _ (.tail _ (.tail _ hp)))) o1.2.2
end
end
-- LZ1
theorem fresh_LZ1 : True := by
  w_top off
  exact trivial
section
theorem zero_caught {prog : Program} {w : World} {A : Around} {env : Env} {t : Expr} {E : Value → Shared → Prop} {s : Shared} {Q : Flow → Shared → Prop} {e L : Addr} {base g h₀ : Heap} {m : Str → Option Value} {b₀ : Stmt} {suite : List Stmt} {pos : Pos} {rest : List ExceptHandler} {news : Led}
    (hfr : A.frames = some [env]) (hf : env.frame = some L) (F : Fr h₀ L g m) (R : RaisedSN base g [env] e (.type "ZeroDivisionError") news s.heap) (U : g.UpToSlots s.heap)
    (hname : ∀ (A' : Around) (E' : Value → Shared → Prop) (Q' : Value → Shared → Prop) (s' : Shared), Fr h₀ L s'.heap m → Q' (.type "ZeroDivisionError") s' → wpAny (model prog w) A' (eval t env) Q' E' s')
    (hret : ∀ (A' : Around) (E' : Value → Shared → Prop) (h' : Heap), Fr h₀ L h' m → (∀ q ∈ news, h'.get? q.1 = some q.2) → wpAny (model prog w) A' (execs (b₀ :: suite) env) Q E' { s with heap := h' }) :
    wpAny (model prog w) A (noteFrame (.ref e) env) (fun _ s₂ => wpAny (model prog w) A (setFlight (.ref e) none) (fun _ s₃ =>
      wpAny (model prog w) A (handleBy (.ref e) env (.ExceptHandler (some t) none (b₀ :: suite) pos :: rest)) Q E s₃) E s₂) E s := by
  obtain ⟨B, a0, hB, hBG, hl, hfl⟩ := R
  have keep : ∀ {h' : Heap}, B.StaysIn h' → g.UpToSlots h' → Fr h₀ L h' m := fun {h'} k u => ⟨u.ns F.ns, fun b o q => k b o (hBG b o (F.keep b o q) fun hm => by
    obtain ⟨env', he, hb⟩ := List.mem_filterMap.mp hm
    rw [List.mem_singleton.mp he, hf] at hb
    cases hb
    rw [kts_self F] at q
    cases q), F.above⟩
  refine wpAny_looks_onW hfr hf hfl fun h₄ hheld₄ hsm₄ => ?_
  refine wpAny_landsW hheld₄ fun h₅ hheld hsm₅' => ?_
  have hsm₅ := U.trans (hsm₄.trans hsm₅')
  have F₅ := keep hheld.1 hsm₅
  obtain ⟨ob, hob, hobc⟩ := hheld.there
  refine wpAny_handleBy_builtin (X := "ZeroDivisionError") (T := "ZeroDivisionError") (b := true) PySem.F.isExc_ZeroDivisionError PySem.F.notTuple_ZeroDivisionError (by rw [isSubtype_type]; kernel_rfl) (hname _ _ _ _ F₅ ⟨rfl, ⟨ob, hob, hobc⟩, ?_⟩)
  refine lands_againW hheld fun h₆ hfl₆ hsm₆ => ?_
  exact hret _ _ _ (keep hfl₆.1 (hsm₅.trans hsm₆)) fun q hq => hfl₆.1 _ _ (hl q hq).1
variable {w : World} {p : Program} {loose : List Str} {mean : ExcName → Option Value} {mg mb : Str → Option Value}
theorem id_zero {dp un : Nat} {gd : Option (List Code)} {cn : Str} {cs : Scope} {a : Addr} {ccd : Value} {cl : List (Str × Addr)} {outer : List Env} {A₀ : Around} {base h₀ : Heap} {L : Addr} {m : Str → Option Value} {s : Shared} {Q E : Value → Shared → Prop} {news : Led} {x : Int} {ta tb : Tok}
    (B : Below A₀ base outer h₀) (F : Fr h₀ L s.heap m) (X : (hd.heap_39 w.params).In h₀) (T : Top p loose mean mg mb h₀) (hC1 : CodeHd h₀ 41 37) (hC2 : CodeHd h₀ 48 44) (N : News h₀ L s.heap news) (hk : cs.kind = .function)
    (hd1 : dp + 3 < recursionLimit) (hu1 : un + 20 < cLine)
    (hE : ∀ e h' g m' tk, Fr h₀ L g m' → RaisedSN base g (envX cn cs L a ccd cl :: outer) e (.type "ZeroDivisionError") news h' → g.UpToSlots h' → E (.ref e) { s with heap := h', toks := tk }) :
    wpAny (model PySem.Challenge.pw_sr0065_01 w) (ktrTop dp un gd cn cs L a ccd cl outer) (call (.ref 63) [.int x ta, .int 0 tb]) Q E s := by
  refine wpAny_call ?_
  (k_dflt (refine' code_def ?k1u17 ?k2u17 ?k3u17 ?k4u17 ?k5u17 ?kAu17 ?kFu17 ?kKu17 ?k6u17 ?k7u17 ?k8u17 ?k9u17 ?kBu17 ?_ ?c2u17 ?c3u17 ?c4u17 ?c5u17; (case kAu17 => exact rfl); (case kFu17 => exact rfl); (case kKu17 => assumption); (case k1u17 | k2u17 | k3u17 | k4u17 | k5u17 => k_asm); (case k6u17 => k_is); (case k7u17 => k_is); (case k8u17 => ktr_room); (case k9u17 => exact BindsTo.of_eq rfl); (case c5u17 => decide); (case kBu17 => exact locs rfl); (case c2u17 => exact rfl); (case c3u17 => exact rfl); (case c4u17 => exact rfl); k_whole; intro gz Lz hz FGz Fz Nz Bz Xz Tz; (have Cz := CodeHd.keeps (c := 41) (P := 37) (by assumption) (Fr.keep FGz)); (have Dz := CodeHd.keeps (c := 48) (P := 44) (by assumption) (Fr.keep FGz)); (try dsimp only); (try k_fold)))
  (repeat' ((fail_if_success (with_reducible show wpAny _ _ (exec (Stmt.Raise _ _ _) _) _ _ _)); first | (k_unfold; (try dsimp only)) | walk1 | (dsimp only; walk1) | fail "no step"))
  (rename Fr _ _ _ _ => nF); (rename Below _ _ _ _ => nB); (rename Fr _ _ _ m => nG)
  (k_dflt (refine' Raise_classB rfl excClass_ZeroDivisionError ?hs (name_B nF ?k1 ?k2 ?k3 ?k4 ?k5 ⟨rfl, rfl⟩) ?_; (case k1 => k_asm); (case k2 => k_asm); (case k3 => k_is); (case k4 => boot_by_name); (case k5 => decide); (case hs => (rw [isSubtype_type]; kernel_rfl))))
  intro h9 e9 hx9
  (try dsimp only)
  (rename News _ _ _ _ => nN)
  exact leave_newS nB hx9 nF nN fun h8 S8 R8 U8 => hE _ _ _ _ _ nG S8 U8
end
section
open PyProof.Rows
theorem item_prds {prog : Program} {w : World} {A : Around} {E : Value → Shared → Prop} {s : Shared} {h₀ : Heap} {L : Addr} {news : Led} {value slice : Expr} {l : Addr} {vs : List Value} {W n : Nat} {k : Int} {ep : Nat} {u : Tok} {Q : Value → Shared → Prop} (N : News h₀ L s.heap news) (hm : (l, listOf vs.toArray ep) ∈ news) (hi : IntsAre vs (prds W (n + 1)))
    (h1 : Pre (0 ≤ k ∧ k ≤ n)) (h8 : n ≤ 8) (h : ∀ t, Q (.int (prd W k.toNat) t) s)
    (hs : subscripted slice false (.ref l) (.int k u) = operate [.ref l, .int k u] (getItem (.ref l) (.int k u))) (hg : ∀ r, letTemporaryGo value (.ref l) r = pure ()) :
    wpAny (model prog w) A (subscriptTail value slice (.ref l) (.int k u)) Q E s := by
  have h1' : 0 ≤ k ∧ k ≤ n := h1
  refine item_ints N hm hi (show 0 ≤ k ∧ k < _ ∧ k < 2 ^ 62 from ⟨h1'.1, by rw [prds_len]; omega, by omega⟩) (fun t => ?_) hs hg
  rw [prds_getD (by omega)]
  exact h t
end
-- LX3
theorem fresh_LX3 : True := by
  w_top off
  exact trivial
section
variable {w : World} {p : Program} {loose : List Str} {mean : ExcName → Option Value} {mg mb : Str → Option Value}
theorem Tabs.put {T1 T2 r : Led} {a b c : Addr} {x y o o' : Obj} (h : Tabs T1 T2 ((a, x) :: (b, y) :: (c, o) :: r)) : Tabs T1 T2 ((a, x) :: (b, y) :: (c, o') :: r) := by
  have key : ∀ T, Dj T ((a, x) :: (b, y) :: (c, o) :: r) → Dj T ((a, x) :: (b, y) :: (c, o') :: r) := fun T g =>
    List.forall_mem_cons.mpr ⟨g _ (.head _), List.forall_mem_cons.mpr ⟨g _ (.tail _ (.head _)), List.forall_mem_cons.mpr ⟨g (c, o) (.tail _ (.tail _ (.head _))), fun q hq => g q (.tail _ (.tail _ (.tail _ hq)))⟩⟩⟩
  exact ⟨h.a, h.b, h.ab, key _ h.ar, key _ h.br⟩
theorem Tabs.add {T1 T2 r : Led} {x : Addr} {o : Obj} (h : Tabs T1 T2 r) (hx : ∀ p ∈ T1 ++ T2, p.1 ≠ x) : Tabs T1 T2 ((x, o) :: r) :=
  ⟨h.a, h.b, h.ab, h.ar.cons fun q hq => (hx q (List.mem_append_left _ hq)).symm, h.br.cons fun q hq => (hx q (List.mem_append_right _ hq)).symm⟩
theorem mem_t {T1 T2 r : Led} {p : Addr × Obj} (h : p ∈ T1 ++ T2) : p ∈ T1 ++ (T2 ++ r) := by
  rw [← List.append_assoc]; exact List.mem_append_left _ h
theorem led_mix {U1 U2 fix rest : Led} {x : Addr × Obj} : ∀ p ∈ x :: (fix ++ (U1 ++ (U2 ++ rest))), p ∈ x :: (U1 ++ (U2 ++ (fix ++ rest))) := by
  intro p hp
  simp only [List.mem_cons, List.mem_append] at hp ⊢
  rcases hp with h | h | h | h | h <;> simp [h]
theorem led_mix2 {U1 U2 fix rest : Led} : ∀ p ∈ U1 ++ (U2 ++ (fix ++ rest)), p ∈ fix ++ (U1 ++ (U2 ++ rest)) := by
  intro p hp
  simp only [List.mem_append] at hp ⊢
  rcases hp with h | h | h | h <;> simp [h]
end
namespace Clawmid5
noncomputable def Pq (w : World) (p : Program) (loose : List Str) (mean : ExcName → Option Value) (mg : Str → Option Value) (mb : Str → Option Value) (dp : Nat) (un : Nat) (gd : Option (List Code)) (fa : Addr) (cd : Value) (A₀ : Around) (base : Heap) (h₀ : Heap) (L : Addr) (m : Str → Option Value) (s : Shared) (Q : Flow → Shared → Prop) (E : Value → Shared → Prop) (o1 : Obj) (o2 : Obj) (o3 : Obj) (o4 : Obj) (o5 : Obj) (x3 : Option Value) (x4 : Option Value) (x5 : Option Value) (sg : Int) (tb : Int) (wd : Int) (tn : Int) (sd : Int) (tsg : Tok) (ttb : Tok) (twd : Tok) (ttn : Tok) (tsd : Tok) (pr : Addr) (lt : Addr) (pv : List Value) (ep : Nat) (el : Nat) (ll : Led) (rest : Led) (S : List Int × List PK) : Prop := ∀ (B : Below A₀ base [] h₀) (F : Fr h₀ L s.heap (fun z => if z = Str.ofString "lots" then some (.ref lt) else if z = Str.ofString "products" then some (.ref pr) else if z = Str.ofString "side" then some (.int sd tsd) else if z = Str.ofString "turn" then some (.int tn ttn) else if z = Str.ofString "width" then some (.int wd twd) else m z)) (X : (hd.heap_39 w.params).In h₀) (T : Top p loose mean mg mb h₀) (hC1 : CodeHd h₀ 41 37) (hC2 : CodeHd h₀ 48 44) (N : News h₀ L s.heap ((lt, listOf (ll.map fun q => Value.ref q.1).toArray el) :: (pr, listOf pv.toArray ep) :: (L + 1 + 1 + 1 + 1 + 1, o5) :: (L + 1 + 1 + 1 + 1, o4) :: (L + 1 + 1 + 1, o3) :: (L + 1 + 1, o2) :: (L + 1, o1) :: (44, tabObj #[]) :: (37, tabObj #[]) :: rest)) (hlt : @LT.lt Nat _ 44 L ∧ @LT.lt Nat _ 37 L) (hd1 : dp + 40 < recursionLimit) (hu1 : un + 600 < cLine) (hE : PassesOwn (model PySem.Challenge.pw_sr0065_01 w) (ktrTop dp un gd (Str.ofString "law") (lawScope w.params) L fa cd (cellsFrom (L + 1) (lawScope w.params).names []) []) (lawEnv w.params L fa cd) E) (hQ : ∀ h' tk' m' news', Fr h₀ L h' m' → News h₀ L h' news' → GrownAll [(48, 44), (41, 37)] h' → Q (.ret (.bool true)) { s with heap := h', toks := tk' }) (d1 : o1.data = .cell (some (.int sg tsg))) (d2 : o2.data = .cell (some (.int tb ttb))) (d3 : o3.data = .cell x3) (d4 : o4.data = .cell x4) (d5 : o5.data = .cell x5) (hs3 : 3 ≤ sg) (hs8 : sg ≤ 8) (ht1 : 1 ≤ tb) (hts : tb ≤ sg) (hw4 : 4 ≤ wd) (hw603 : wd ≤ 603) (hU1 : Unit1 tn) (hU2 : Unit1 sd) (hpr : @LT.lt Nat _ (L + 1 + 1 + 1 + 1 + 1) pr) (hPv : IntsAre pv (prds wd.toNat (sg.toNat + 1))) (hlt2 : @LT.lt Nat _ pr lt) (hll : ∀ q ∈ ll, q ∈ rest) (hrest : ∀ q ∈ rest, @LT.lt Nat _ (L + 1 + 1 + 1 + 1 + 1) q.1 ∧ q.1 ≠ lt) (hS : S = rowsAt sg.toNat (rowsAll sg.toNat tb.toNat) (rowsAll sg.toNat tb.toNat).length) (hla : LotsAre rest (lot0 wd.toNat sg.toNat tb.toNat sg S.1 :: S.2.map (lotK wd.toNat tb.toNat tb)) ll),
    wpAny (model PySem.Challenge.pw_sr0065_01 w) (ktrTop dp un gd (Str.ofString "law") (lawScope w.params) L fa cd (cellsFrom (L + 1) (lawScope w.params).names []) []) (execs (lawBody w.params).tail.tail.tail.tail.tail.tail.tail.tail.tail.tail.tail.tail.tail.tail (lawEnv w.params L fa cd)) Q E s
noncomputable abbrev Tq : Type := ((((((World × Program) × (List Str)) × (((ExcName → Option Value) × (Str → Option Value)) × (Str → Option Value))) × (((Nat × Nat) × (Option (List Code))) × ((Addr × Value) × Around))) × ((((Heap × Heap) × Addr) × (((Str → Option Value) × Shared) × (Flow → Shared → Prop))) × ((((Value → Shared → Prop) × Obj) × Obj) × (Obj × Obj)))) × (((((Obj × (Option Value)) × (Option Value)) × (((Option Value) × Int) × Int)) × (((Int × Int) × Int) × (Tok × Tok))) × ((((Tok × Tok) × Tok) × ((Addr × Addr) × (List Value))) × (((Nat × Nat) × Led) × (Led × (List Int × List PK))))))
theorem exq : ∃ t : Tq, Pq t.1.1.1.1.1.1 t.1.1.1.1.1.2 t.1.1.1.1.2 t.1.1.1.2.1.1 t.1.1.1.2.1.2 t.1.1.1.2.2 t.1.1.2.1.1.1 t.1.1.2.1.1.2 t.1.1.2.1.2 t.1.1.2.2.1.1 t.1.1.2.2.1.2 t.1.1.2.2.2 t.1.2.1.1.1.1 t.1.2.1.1.1.2 t.1.2.1.1.2 t.1.2.1.2.1.1 t.1.2.1.2.1.2 t.1.2.1.2.2 t.1.2.2.1.1.1 t.1.2.2.1.1.2 t.1.2.2.1.2 t.1.2.2.2.1 t.1.2.2.2.2 t.2.1.1.1.1.1 t.2.1.1.1.1.2 t.2.1.1.1.2 t.2.1.1.2.1.1 t.2.1.1.2.1.2 t.2.1.1.2.2 t.2.1.2.1.1.1 t.2.1.2.1.1.2 t.2.1.2.1.2 t.2.1.2.2.1 t.2.1.2.2.2 t.2.2.1.1.1.1 t.2.2.1.1.1.2 t.2.2.1.1.2 t.2.2.1.2.1.1 t.2.2.1.2.1.2 t.2.2.1.2.2 t.2.2.2.1.1.1 t.2.2.2.1.1.2 t.2.2.2.1.2 t.2.2.2.2.1 t.2.2.2.2.2 → ∀ t : Tq, Pq t.1.1.1.1.1.1 t.1.1.1.1.1.2 t.1.1.1.1.2 t.1.1.1.2.1.1 t.1.1.1.2.1.2 t.1.1.1.2.2 t.1.1.2.1.1.1 t.1.1.2.1.1.2 t.1.1.2.1.2 t.1.1.2.2.1.1 t.1.1.2.2.1.2 t.1.1.2.2.2 t.1.2.1.1.1.1 t.1.2.1.1.1.2 t.1.2.1.1.2 t.1.2.1.2.1.1 t.1.2.1.2.1.2 t.1.2.1.2.2 t.1.2.2.1.1.1 t.1.2.2.1.1.2 t.1.2.2.1.2 t.1.2.2.2.1 t.1.2.2.2.2 t.2.1.1.1.1.1 t.2.1.1.1.1.2 t.2.1.1.1.2 t.2.1.1.2.1.1 t.2.1.1.2.1.2 t.2.1.1.2.2 t.2.1.2.1.1.1 t.2.1.2.1.1.2 t.2.1.2.1.2 t.2.1.2.2.1 t.2.1.2.2.2 t.2.2.1.1.1.1 t.2.2.1.1.1.2 t.2.2.1.1.2 t.2.2.1.2.1.1 t.2.2.1.2.1.2 t.2.2.1.2.2 t.2.2.2.1.1.1 t.2.2.2.1.1.2 t.2.2.2.1.2 t.2.2.2.2.1 t.2.2.2.2.2 := dk (α := Tq) (((((((aWorld 0, default), default), (((fun _ => default), (fun _ => default)), (fun _ => default))), (((default, default), default), ((default, default), ({} : Around)))), ((((default, default), default), (((fun _ => default), ({} : Shared)), (fun _ _ => True))), ((((fun _ _ => True), default), default), (default, default)))), (((((default, default), default), ((default, default), default)), (((default, default), default), (default, default))), ((((default, default), default), ((default, default), default)), (((default, default), default), (default, default)))))) _
noncomputable def cq : Tq := Classical.choose exq
@[irreducible] noncomputable def w : World := cq.1.1.1.1.1.1
@[irreducible] noncomputable def p : Program := cq.1.1.1.1.1.2
@[irreducible] noncomputable def loose : List Str := cq.1.1.1.1.2
@[irreducible] noncomputable def mean : ExcName → Option Value := cq.1.1.1.2.1.1
@[irreducible] noncomputable def mg : Str → Option Value := cq.1.1.1.2.1.2
@[irreducible] noncomputable def mb : Str → Option Value := cq.1.1.1.2.2
@[irreducible] noncomputable def dp : Nat := cq.1.1.2.1.1.1
@[irreducible] noncomputable def un : Nat := cq.1.1.2.1.1.2
@[irreducible] noncomputable def gd : Option (List Code) := cq.1.1.2.1.2
@[irreducible] noncomputable def fa : Addr := cq.1.1.2.2.1.1
@[irreducible] noncomputable def cd : Value := cq.1.1.2.2.1.2
@[irreducible] noncomputable def A₀ : Around := cq.1.1.2.2.2
@[irreducible] noncomputable def base : Heap := cq.1.2.1.1.1.1
@[irreducible] noncomputable def h₀ : Heap := cq.1.2.1.1.1.2
@[irreducible] noncomputable def L : Addr := cq.1.2.1.1.2
@[irreducible] noncomputable def m : Str → Option Value := cq.1.2.1.2.1.1
@[irreducible] noncomputable def s : Shared := cq.1.2.1.2.1.2
@[irreducible] noncomputable def Q : Flow → Shared → Prop := cq.1.2.1.2.2
@[irreducible] noncomputable def E : Value → Shared → Prop := cq.1.2.2.1.1.1
@[irreducible] noncomputable def o1 : Obj := cq.1.2.2.1.1.2
@[irreducible] noncomputable def o2 : Obj := cq.1.2.2.1.2
@[irreducible] noncomputable def o3 : Obj := cq.1.2.2.2.1
@[irreducible] noncomputable def o4 : Obj := cq.1.2.2.2.2
@[irreducible] noncomputable def o5 : Obj := cq.2.1.1.1.1.1
@[irreducible] noncomputable def x3 : Option Value := cq.2.1.1.1.1.2
@[irreducible] noncomputable def x4 : Option Value := cq.2.1.1.1.2
@[irreducible] noncomputable def x5 : Option Value := cq.2.1.1.2.1.1
@[irreducible] noncomputable def sg : Int := cq.2.1.1.2.1.2
@[irreducible] noncomputable def tb : Int := cq.2.1.1.2.2
@[irreducible] noncomputable def wd : Int := cq.2.1.2.1.1.1
@[irreducible] noncomputable def tn : Int := cq.2.1.2.1.1.2
@[irreducible] noncomputable def sd : Int := cq.2.1.2.1.2
@[irreducible] noncomputable def tsg : Tok := cq.2.1.2.2.1
@[irreducible] noncomputable def ttb : Tok := cq.2.1.2.2.2
@[irreducible] noncomputable def twd : Tok := cq.2.2.1.1.1.1
@[irreducible] noncomputable def ttn : Tok := cq.2.2.1.1.1.2
@[irreducible] noncomputable def tsd : Tok := cq.2.2.1.1.2
@[irreducible] noncomputable def pr : Addr := cq.2.2.1.2.1.1
@[irreducible] noncomputable def lt : Addr := cq.2.2.1.2.1.2
@[irreducible] noncomputable def pv : List Value := cq.2.2.1.2.2
@[irreducible] noncomputable def ep : Nat := cq.2.2.2.1.1.1
@[irreducible] noncomputable def el : Nat := cq.2.2.2.1.1.2
@[irreducible] noncomputable def ll : Led := cq.2.2.2.1.2
@[irreducible] noncomputable def rest : Led := cq.2.2.2.2.1
@[irreducible] noncomputable def S : List Int × List PK := cq.2.2.2.2.2
theorem coreq : Pq w p loose mean mg mb dp un gd fa cd A₀ base h₀ L m s Q E o1 o2 o3 o4 o5 x3 x4 x5 sg tb wd tn sd tsg ttb twd ttn tsd pr lt pv ep el ll rest S := by
  unfold Pq
  intro B F X T hC1 hC2 N hlt hd1 hu1 hE hQ d1 d2 d3 d4 d5 hs3 hs8 ht1 hts hw4 hw603 hU1 hU2 hpr hPv hlt2 hll hrest hS hla
  dsimp only [lawBody, lawEnv, lawO, stmtsOf, lawScope, scopeOf, List.tail]
  have hgood := lots_good (W := wd.toNat) (n := sg.toNat) (t := tb.toNat) (S := S) (by omega) (by omega) (by omega) (by omega) (by omega) (by omega) hS
  rw [show ((sg.toNat : Nat) : Int) = sg by omega, show ((tb.toNat : Nat) : Int) = tb by omega] at hgood
  have hts1 : tn = sd ∨ tn = -sd := by rcases hU1 with u1 | u1 <;> rcases hU2 with u2 | u2 <;> rw [u1, u2] <;> decide
  (try dsimp only); walk1; (try ((with_reducible show wpAny _ _ (execs _ _) _ _ _); walk1))
  ((k_here; k_dflt (refine' for_stmt ?_ ?hsq56; (case hsq56 => exact (fun _ => rfl)); k_whole)))
  walk_at "STEPS"
  (k_dflt (refine' forT_list (σ := Obj × Led × Led) (l := lt) (vs := ll.map fun q => Value.ref q.1) (k := el) (fun c => (lt, listOf (ll.map fun q => Value.ref q.1).toArray el) :: (pr, listOf pv.toArray ep) :: (L + 1 + 1 + 1 + 1 + 1, c.1) :: (L + 1 + 1 + 1 + 1, o4) :: (L + 1 + 1 + 1, o3) :: (L + 1 + 1, o2) :: (L + 1, o1) :: (c.2.1 ++ (c.2.2 ++ rest))) (fun _ => []) [Str.ofString "upper", Str.ofString "lower", Str.ofString "places", Str.ofString "due"] (fun i c => Tabs c.2.1 c.2.2 ((lt, listOf (ll.map fun q => Value.ref q.1).toArray el) :: (pr, listOf pv.toArray ep) :: (L + 1 + 1 + 1 + 1 + 1, c.1) :: (L + 1 + 1 + 1 + 1, o4) :: (L + 1 + 1 + 1, o3) :: (L + 1 + 1, o2) :: (L + 1, o1) :: rest) ∧ (∃ x, c.1.data = .cell x)) (o5, [(37, tabObj #[])], [(44, tabObj #[])]) hE rfl F ?hN ?hl ?hk ?h0 ?turn ?done))
  case hN => exact cb_drop N (by (((try dsimp only); (repeat (refine List.forall_mem_cons.mpr ⟨by k_mem, ?_⟩)); first | exact List.forall_mem_nil _ | walk_at "SUB")))
  case hl => exact fun c => by k_mem
  case hk => exact fun p hp => nomatch hp
  case h0 =>
    refine ⟨⟨.fresh, .fresh, ?_, ?_, ?_⟩, ⟨_, d5⟩⟩
    · exact List.forall_mem_cons.mpr ⟨List.forall_mem_cons.mpr ⟨by decide, List.forall_mem_nil _⟩, List.forall_mem_nil _⟩
    · refine List.forall_mem_cons.mpr ⟨?_, List.forall_mem_cons.mpr ⟨?_, List.forall_mem_cons.mpr ⟨?_, List.forall_mem_cons.mpr ⟨?_, List.forall_mem_cons.mpr ⟨?_, List.forall_mem_cons.mpr ⟨?_, List.forall_mem_cons.mpr ⟨?_, fun q hq => ?_⟩⟩⟩⟩⟩⟩⟩
      all_goals refine List.forall_mem_cons.mpr ⟨Nat.ne_of_gt (show @LT.lt Nat _ _ _ from ?_), List.forall_mem_nil _⟩
      all_goals (first | omega | (have := (hrest q hq).1; omega))
    · refine List.forall_mem_cons.mpr ⟨?_, List.forall_mem_cons.mpr ⟨?_, List.forall_mem_cons.mpr ⟨?_, List.forall_mem_cons.mpr ⟨?_, List.forall_mem_cons.mpr ⟨?_, List.forall_mem_cons.mpr ⟨?_, List.forall_mem_cons.mpr ⟨?_, fun q hq => ?_⟩⟩⟩⟩⟩⟩⟩
      all_goals refine List.forall_mem_cons.mpr ⟨Nat.ne_of_gt (show @LT.lt Nat _ _ _ from ?_), List.forall_mem_nil _⟩
      all_goals (first | omega | (have := (hrest q hq).1; omega))
  case turn =>
    rintro i v ⟨oS, T1, T2⟩ u h tk I oI hi hv ⟨hT, xS, hS5⟩ hoff hIl F1 N1
    dsimp only at hT hS5 hoff F1 N1
    rw [List.getElem?_map] at hv
    cases hq9 : ll[i]? with
    | none => rw [hq9] at hv; cases hv
    | some q9 =>
      rw [hq9] at hv
      cases hv
      obtain ⟨a, sm, sv, ep3, tu, tl, tp, ha, hqo, hsm, hss⟩ := hla.at hq9
      obtain ⟨Nn, A, g1, g2, g3, g4, g5, g6, g7, g8, g9, g10, g11⟩ := hgood a (List.mem_of_getElem? ha)
      have hqr := hll _ (List.mem_of_getElem? hq9)
      rw [show q9 = (q9.1, q9.2) from rfl, hqo] at hqr
      generalize hR2 : T1 ++ (T2 ++ rest) = R at N1 hoff
      have hRr : ∀ p ∈ rest, p ∈ R := fun p hp => hR2 ▸ List.mem_append_right _ (List.mem_append_right _ hp)
      have hR5 : ∀ p ∈ R, p.1 ≠ L + 1 + 1 + 1 + 1 + 1 := fun p hp => by
        rw [← hR2] at hp
        rcases List.mem_append.mp hp with hp | hp
        · exact (hT.ar _ (.tail _ (.tail _ (.head _))) p hp).symm
        · rcases List.mem_append.mp hp with hp | hp
          · exact (hT.br _ (.tail _ (.tail _ (.head _))) p hp).symm
          · exact Nat.ne_of_gt (hrest p hp).1
      have hIlt : @LT.lt Nat _ lt I := hIl (lt, _) (.head _)
      (k_dflt (refine assign_four (v₁ := .int a.u tu) (v₂ := .int a.l tl) (v₃ := .int a.p tp) (v₄ := .ref sm) rfl F1 (List.forall_mem_cons.mpr ⟨N1 (q9.1, _) (by (repeat (refine List.Mem.tail _ ?_)); exact hRr _ hqr), N1⟩) (.head _) ?_))
      intro h9 F9 N9
      clear N1 F1
      replace N9 := cb_drop N9 (fun p hp => List.Mem.tail _ hp)
      (try dsimp only)
      (try k_fold)
      walk_at "STEPS"
      (rename IsRange _ _ _ _ _ _ _ _ => rg9); (rename Fr _ _ _ _ => nF); (rename News _ _ _ _ => nN); (rename _ = Data.cell _ => dS9)
      obtain ⟨oN, dN, nN2⟩ : ∃ oN : Obj, oN.data = .cell (some (.ref sm)) ∧ News h₀ L _ ((I, oI) :: (lt, listOf (ll.map fun q => Value.ref q.1).toArray el) :: (pr, listOf pv.toArray ep) :: (L + 1 + 1 + 1 + 1 + 1, oN) :: (L + 1 + 1 + 1 + 1, o4) :: (L + 1 + 1 + 1, o3) :: (L + 1 + 1, o2) :: (L + 1, o1) :: R) := ⟨_, dS9, cb_drop nN (by (((try dsimp only); (repeat (refine List.forall_mem_cons.mpr ⟨by k_mem, ?_⟩)); first | exact List.forall_mem_nil _ | walk_at "SUB")))⟩
      clear nN dS9
      (k_dflt (refine' due_block (sm := sm) (vs := sv) (ep := ep3) (ss := a.ss) (pl := a.p.toNat) B nF X T hC1 hC2 nN2 hd1 hu1 ?m1 ?m2 dN hss g10 g11 ?n8 ?bb rg9 ?q1))
      case m1 => (repeat (refine List.Mem.tail _ ?_)); exact hRr _ hsm
      case m2 => k_mem
      case n8 => omega
      case bb => omega
      case q1 =>
        intro D zs h tk hz F2 N2 oD1
        clear nF nN2
        (try dsimp only)
        (try k_fold)
        walk_at "STEPS"
        have hTf : Tabs T1 T2 ((D, LCg.lst zs) :: (I, oI) :: (lt, listOf (ll.map fun q => Value.ref q.1).toArray el) :: (pr, listOf pv.toArray ep) :: (L + 1 + 1 + 1 + 1 + 1, oN) :: (L + 1 + 1 + 1 + 1, o4) :: (L + 1 + 1 + 1, o3) :: (L + 1 + 1, o2) :: (L + 1, o1) :: rest) := by
          refine Tabs.add (Tabs.add hT.put fun p hp => ?_) fun p hp => ?_
          · exact hoff p (List.mem_append_right _ (show p ∈ R from hR2 ▸ mem_t hp) : p ∈ ([_, _, _, _, _, _, _] : Led) ++ R)
          · exact off1_mem oD1 p (List.mem_append_right _ (show p ∈ R from hR2 ▸ mem_t hp) : p ∈ ([_, _, _, _, _, _, _, _] : Led) ++ R)
        have hA : Nn % (2 ^ (wd * a.p).toNat - 1) = A := by rw [Int.toNat_mul (by omega) (by omega)]; exact g5
        k_dflt refine' CallOkC.use (fig_ok w p loose mean mg mb T1 T2 _ a.u a.l a.p wd tn sd Nn A _ _ _ _ _ _ hTf g1 g2 g3 g4.1 g4.2 hw4 hw603 hU1 hts1 hU2 hA g6 g7 g8) ?k1 ?k2 ?k3 ?k4 ?ks ?k5 ?k6 ?kc1 ?kc2 ?k7 ?k8 ?_
        walk_at "KS"
        case ks => (rw [← hR2]; exact led_mix2 (fix := [_, _, _, _, _, _, _, _, _]))
        intro r9 n9 h9 tk9 F9 N9 hO9
        obtain ⟨D2, vs2, U1, U2, rfl, hv2, rfl, hT2, hlt2⟩ := hO9
        rw [g9] at hv2
        have N10 : News h₀ L h9 ((D2, listOf vs2.toArray 0) :: (D, LCg.lst zs) :: (I, oI) :: (lt, listOf (ll.map fun q => Value.ref q.1).toArray el) :: (pr, listOf pv.toArray ep) :: (L + 1 + 1 + 1 + 1 + 1, oN) :: (L + 1 + 1 + 1 + 1, o4) :: (L + 1 + 1 + 1, o3) :: (L + 1 + 1, o2) :: (L + 1, o1) :: (U1 ++ (U2 ++ rest))) := cb_drop N9 (led_mix (fix := [_, _, _, _, _, _, _, _, _]))
        clear N9 N2
        generalize hR4 : U1 ++ (U2 ++ rest) = R4 at N10
        (try dsimp only)
        (try k_fold)
        walk_at "STEPS"
        have hU4 := hT2.tail.tail
        refine TurnOk.intro (oN, U1, U2) (by assumption) N10 (.tail _ (.tail _ (.head _))) ?_ ?_ (fun p hp => nomatch hp) (by ((intro zq59 h2q59 h3q59; (try simp only [List.forall_mem_cons, List.not_mem_nil, false_implies, implies_true, and_true, ne_eq] at h2q59); (simp only [List.contains_cons, List.contains_nil, Bool.or_false, Bool.or_eq_false_iff, beq_eq_false_iff_ne, ne_eq] at h3q59); first | (simp [h2q59, h3q59, kstB]; done) | (simp [h3q59, kstB]; done) | simp_all [kstB]))) ?_
        · dsimp only
          rw [hR4]
          exact fun p hp => .tail _ (.tail _ (.tail _ hp))
        · dsimp only
          refine List.forall_mem_cons.mpr ⟨hoff (lt, _) (.head _), List.forall_mem_cons.mpr ⟨hoff (pr, _) (.tail _ (.head _)), List.forall_mem_cons.mpr ⟨hoff (L + 1 + 1 + 1 + 1 + 1, oS) (.tail _ (.tail _ (.head _))), List.forall_mem_cons.mpr ⟨hoff (L + 1 + 1 + 1 + 1, _) (.tail _ (.tail _ (.tail _ (.head _)))), List.forall_mem_cons.mpr ⟨hoff (L + 1 + 1 + 1, _) (.tail _ (.tail _ (.tail _ (.tail _ (.head _))))), List.forall_mem_cons.mpr ⟨hoff (L + 1 + 1, _) (.tail _ (.tail _ (.tail _ (.tail _ (.tail _ (.head _)))))), List.forall_mem_cons.mpr ⟨hoff (L + 1, _) (.tail _ (.tail _ (.tail _ (.tail _ (.tail _ (.tail _ (.head _))))))), ?_⟩⟩⟩⟩⟩⟩⟩
          intro p hp
          rcases List.mem_append.mp hp with hp | hp
          · exact (hU4.ar _ (.head _) p hp).symm
          · rcases List.mem_append.mp hp with hp | hp
            · exact (hU4.br _ (.head _) p hp).symm
            · exact hoff p (List.mem_append_right _ (hRr p hp) : p ∈ ([_, _, _, _, _, _, _] : Led) ++ R)
        · exact ⟨hU4.tail, ⟨_, dN⟩⟩
  case done =>
    rintro ⟨oS, T1, T2⟩ u h tk ⟨hT, xS, hS5⟩ F2 N2
    dsimp only at hT hS5 F2 N2
    obtain ⟨p1, hp1⟩ : ∃ ps, (37, tabObj ps) ∈ T1 := by
      cases hT.a with
      | fresh => exact ⟨_, .head _⟩
      | made _ _ _ => exact ⟨_, .head _⟩
    obtain ⟨p2, hp2⟩ : ∃ ps, (44, tabObj ps) ∈ T2 := by
      cases hT.b with
      | fresh => exact ⟨_, .head _⟩
      | made _ _ _ => exact ⟨_, .head _⟩
    have m1 : (37, tabObj p1) ∈ T1 ++ (T2 ++ rest) := List.mem_append_left _ hp1
    have m2 : (44, tabObj p2) ∈ T1 ++ (T2 ++ rest) := List.mem_append_right _ (List.mem_append_left _ hp2)
    generalize T1 ++ (T2 ++ rest) = R at N2 m1 m2
    replace F2 : Fr h₀ L h _ := F2
    have F3 := frN (Str.ofString "products") (.ref pr) (frN (Str.ofString "turn") (.int tn ttn) F2 rfl) rfl
    clear F2
    (try dsimp only)
    (try k_fold)
    (repeat' ((fail_if_success (with_reducible first | (show Pre _) | (show wpAny _ _ (subscriptTail _ _ _ _) _ _ _) | (show wpAny _ _ (exec (Stmt.Try _ _ _ _ _) _) _ _ _) | (show wpAny _ _ (call (Value.ref _) _) _ _ _))); walk_at "TRY"))
    (refine wpAny_Try_except ?_)
    (repeat' ((fail_if_success (with_reducible first | (show Pre _) | (show wpAny _ _ (subscriptTail _ _ _ _) _ _ _) | (show wpAny _ _ (exec (Stmt.Try _ _ _ _ _) _) _ _ _) | (show wpAny _ _ (call (Value.ref _) _) _ _ _))); walk_at "TRY"))
    ((k_here; (rename IntsAre _ (prds _ _) => hP9q62); k_dflt (refine' item_prds ?Nq62 ?mq62 hP9q62 ?h1q62 ?h8q62 ?_ ?sq62 ?tq62; (case Nq62 => k_asm); (case mq62 => k_mem); (case h8q62 => omega); (case sq62 => first | exact rfl | with_unfolding_all rfl); (case tq62 => exact fun _ => rfl)); rotate_left; intro t9q62))
    all_goals (try ((with_reducible show Pre _); exact ⟨by omega, by omega⟩))
    (repeat' ((fail_if_success (with_reducible first | (show Pre _) | (show wpAny _ _ (subscriptTail _ _ _ _) _ _ _) | (show wpAny _ _ (exec (Stmt.Try _ _ _ _ _) _) _ _ _) | (show wpAny _ _ (call (Value.ref _) _) _ _ _))); walk_at "TRY"))
    · exact hU1.mulOk _
    (rename Fr _ _ _ _ => nF); (rename News _ _ _ _ => nN)
    (k_dflt (refine' id_zero B nF X T hC1 hC2 nN rfl (by omega) (by omega) ?_))
    intro e9 h9 g9 m9 tk9 F9 R9 U9
    (try dsimp only)
    (k_dflt (refine' zero_caught rfl rfl F9 R9 U9 ?hname ?hret))
    case hname =>
      intro A' E' Q' s' F' hq
      (k_dflt (refine' nameX_B F' X (topRead_of T) ?k3 ?k4 ?k5 hq; (case k3 => k_is); (case k4 => boot_by_name); (case k5 => decide)))
    case hret =>
      intro A' E' h' F' K'
      have K1 : ∀ q ∈ R, h'.get? q.1 = some q.2 := fun q hq => K' q (by (repeat (refine List.Mem.tail _ ?_)); exact hq)
      (repeat' ((fail_if_success (with_reducible first | (show Pre _) | (show wpAny _ _ (subscriptTail _ _ _ _) _ _ _) | (show wpAny _ _ (exec (Stmt.Try _ _ _ _ _) _) _ _ _) | (show wpAny _ _ (call (Value.ref _) _) _ _ _))); walk_at "TRY"))
      exact hQ _ _ _ _ F' News.nil ⟨⟨_, K1 _ m2⟩, ⟨_, K1 _ m1⟩, trivial⟩
theorem allq (w : World) (p : Program) (loose : List Str) (mean : ExcName → Option Value) (mg : Str → Option Value) (mb : Str → Option Value) (dp : Nat) (un : Nat) (gd : Option (List Code)) (fa : Addr) (cd : Value) (A₀ : Around) (base : Heap) (h₀ : Heap) (L : Addr) (m : Str → Option Value) (s : Shared) (Q : Flow → Shared → Prop) (E : Value → Shared → Prop) (o1 : Obj) (o2 : Obj) (o3 : Obj) (o4 : Obj) (o5 : Obj) (x3 : Option Value) (x4 : Option Value) (x5 : Option Value) (sg : Int) (tb : Int) (wd : Int) (tn : Int) (sd : Int) (tsg : Tok) (ttb : Tok) (twd : Tok) (ttn : Tok) (tsd : Tok) (pr : Addr) (lt : Addr) (pv : List Value) (ep : Nat) (el : Nat) (ll : Led) (rest : Led) (S : List Int × List PK) : Pq w p loose mean mg mb dp un gd fa cd A₀ base h₀ L m s Q E o1 o2 o3 o4 o5 x3 x4 x5 sg tb wd tn sd tsg ttb twd ttn tsd pr lt pv ep el ll rest S := by
  with_unfolding_all exact Classical.choose_spec exq coreq ((((((w, p), loose), ((mean, mg), mb)), (((dp, un), gd), ((fa, cd), A₀))), ((((base, h₀), L), ((m, s), Q)), (((E, o1), o2), (o3, o4)))), (((((o5, x3), x4), ((x5, sg), tb)), (((wd, tn), sd), (tsg, ttb))), ((((twd, ttn), tsd), ((pr, lt), pv)), (((ep, el), ll), (rest, S)))))
end Clawmid5
section
variable {w : World} {p : Program} {loose : List Str} {mean : ExcName → Option Value} {mg mb : Str → Option Value}
theorem law_mid5 {dp un : Nat} {gd : Option (List Code)} {fa : Addr} {cd : Value} {A₀ : Around} {base h₀ : Heap} {L : Addr} {m : Str → Option Value} {s : Shared} {Q : Flow → Shared → Prop} {E : Value → Shared → Prop} {o1 o2 o3 o4 o5 : Obj} {x3 x4 x5 : Option Value} {sg tb wd tn sd : Int} {tsg ttb twd ttn tsd : Tok} {pr lt : Addr} {pv : List Value} {ep el : Nat} {ll rest : Led} {S : List Int × List PK}
    (B : Below A₀ base [] h₀) (F : Fr h₀ L s.heap (fun z => if z = Str.ofString "lots" then some (.ref lt) else if z = Str.ofString "products" then some (.ref pr) else if z = Str.ofString "side" then some (.int sd tsd) else if z = Str.ofString "turn" then some (.int tn ttn) else if z = Str.ofString "width" then some (.int wd twd) else m z)) (X : (hd.heap_39 w.params).In h₀) (T : Top p loose mean mg mb h₀) (hC1 : CodeHd h₀ 41 37) (hC2 : CodeHd h₀ 48 44)
    (N : News h₀ L s.heap ((lt, listOf (ll.map fun q => Value.ref q.1).toArray el) :: (pr, listOf pv.toArray ep) :: (L + 1 + 1 + 1 + 1 + 1, o5) :: (L + 1 + 1 + 1 + 1, o4) :: (L + 1 + 1 + 1, o3) :: (L + 1 + 1, o2) :: (L + 1, o1) :: (44, tabObj #[]) :: (37, tabObj #[]) :: rest))
    (hlt : @LT.lt Nat _ 44 L ∧ @LT.lt Nat _ 37 L) (hd1 : dp + 40 < recursionLimit) (hu1 : un + 600 < cLine)
    (hE : PassesOwn (model PySem.Challenge.pw_sr0065_01 w) (ktrTop dp un gd (Str.ofString "law") (lawScope w.params) L fa cd (cellsFrom (L + 1) (lawScope w.params).names []) []) (lawEnv w.params L fa cd) E)
    (hQ : ∀ h' tk' m' news', Fr h₀ L h' m' → News h₀ L h' news' → GrownAll [(48, 44), (41, 37)] h' → Q (.ret (.bool true)) { s with heap := h', toks := tk' })
    (d1 : o1.data = .cell (some (.int sg tsg))) (d2 : o2.data = .cell (some (.int tb ttb))) (d3 : o3.data = .cell x3) (d4 : o4.data = .cell x4) (d5 : o5.data = .cell x5) (hs3 : 3 ≤ sg) (hs8 : sg ≤ 8) (ht1 : 1 ≤ tb) (hts : tb ≤ sg) (hw4 : 4 ≤ wd) (hw603 : wd ≤ 603) (hU1 : Unit1 tn) (hU2 : Unit1 sd) (hpr : @LT.lt Nat _ (L + 1 + 1 + 1 + 1 + 1) pr) (hPv : IntsAre pv (prds wd.toNat (sg.toNat + 1)))
    (hlt2 : @LT.lt Nat _ pr lt) (hll : ∀ q ∈ ll, q ∈ rest) (hrest : ∀ q ∈ rest, @LT.lt Nat _ (L + 1 + 1 + 1 + 1 + 1) q.1 ∧ q.1 ≠ lt) (hS : S = rowsAt sg.toNat (rowsAll sg.toNat tb.toNat) (rowsAll sg.toNat tb.toNat).length)
    (hla : LotsAre rest (lot0 wd.toNat sg.toNat tb.toNat sg S.1 :: S.2.map (lotK wd.toNat tb.toNat tb)) ll) :
    wpAny (model PySem.Challenge.pw_sr0065_01 w) (ktrTop dp un gd (Str.ofString "law") (lawScope w.params) L fa cd (cellsFrom (L + 1) (lawScope w.params).names []) []) (execs (lawBody w.params).tail.tail.tail.tail.tail.tail.tail.tail.tail.tail.tail.tail.tail.tail (lawEnv w.params L fa cd)) Q E s :=
  Clawmid5.allq w p loose mean mg mb dp un gd fa cd A₀ base h₀ L m s Q E o1 o2 o3 o4 o5 x3 x4 x5 sg tb wd tn sd tsg ttb twd ttn tsd pr lt pv ep el ll rest S B F X T hC1 hC2 N hlt hd1 hu1 hE hQ d1 d2 d3 d4 d5 hs3 hs8 ht1 hts hw4 hw603 hU1 hU2 hpr hPv hlt2 hll hrest hS hla
end
-- LW
theorem fresh_LW : True := by
  w_top off
  exact trivial
section
theorem w_one {x : Int} (h : 4 ≤ x) : 1 ≤ x.toNat := by omega
theorem w_603 {x : Int} (h : x ≤ 603) : x.toNat ≤ 603 := by omega
theorem n_le8 {x y : Int} (h : x ≤ y) (h8 : y ≤ 8) : x.toNat ≤ 8 := by omega
theorem n_sub8 {x y : Int} (h : 1 ≤ x) (h8 : y ≤ 8) : (y - x).toNat ≤ 8 := by omega
theorem n_sub {x y : Int} (h : 1 ≤ x) (h8 : x ≤ y) : (y - x).toNat = y.toNat - x.toNat := by omega
theorem n_lt9 {x : Int} (h : x ≤ 8) : x.toNat < 9 := by omega
theorem n_ge3 {x : Int} (h : 3 ≤ x) : 3 ≤ x.toNat := by omega
theorem n_ge1 {x : Int} (h : 1 ≤ x) : 1 ≤ x.toNat := by omega
theorem n_le {x y : Int} (h : x ≤ y) : x.toNat ≤ y.toNat := by omega
theorem n_c8 {c x : Int} (h : 0 ≤ c ∧ c ≤ (x.toNat : Int)) (h8 : x ≤ 8) : c.toNat ≤ 8 := by omega
theorem b_22 {x : Nat} (h : x ≤ 22000) : x ≤ 2 ^ 20 := by omega
theorem pow_128 {x : Int} (h : x ≤ 8) : 2 ^ (x.toNat - 1) ≤ 2 ^ 7 := Nat.pow_le_pow_right (by decide) (by omega)
theorem take_9 {ns : List Int} {j : Nat} (h : ns.length ≤ 9) : (ns.take j).length ≤ 9 := Nat.le_trans (by rw [List.length_take]; exact Nat.min_le_right _ _) h
section
variable {w : World} {p : Program} {loose : List Str} {mean : ExcName → Option Value} {mg mb : Str → Option Value}
end
namespace Clawmid4
noncomputable def Pq (w : World) (p : Program) (loose : List Str) (mean : ExcName → Option Value) (mg : Str → Option Value) (mb : Str → Option Value) (dp : Nat) (un : Nat) (gd : Option (List Code)) (fa : Addr) (cd : Value) (A₀ : Around) (base : Heap) (h₀ : Heap) (L : Addr) (m : Str → Option Value) (s : Shared) (Q : Flow → Shared → Prop) (E : Value → Shared → Prop) (o1 : Obj) (o2 : Obj) (o3 : Obj) (o4 : Obj) (o5 : Obj) (x3 : Option Value) (x4 : Option Value) (x5 : Option Value) (sg : Int) (tb : Int) (wd : Int) (tn : Int) (sd : Int) (tsg : Tok) (ttb : Tok) (twd : Tok) (ttn : Tok) (tsd : Tok) (pr : Addr) (sy : Addr) (kd : Addr) (pv : List Value) (sv : List Value) (ep : Nat) (e1 : Nat) (e2 : Nat) (ks : List KRec) (S : List Int × List PK) : Prop := ∀ (B : Below A₀ base [] h₀) (F : Fr h₀ L s.heap (fun z => if z = Str.ofString "kinds" then some (.ref kd) else if z = Str.ofString "symmetries" then some (.ref sy) else if z = Str.ofString "products" then some (.ref pr) else if z = Str.ofString "side" then some (.int sd tsd) else if z = Str.ofString "turn" then some (.int tn ttn) else if z = Str.ofString "width" then some (.int wd twd) else m z)) (X : (hd.heap_39 w.params).In h₀) (T : Top p loose mean mg mb h₀) (hC1 : CodeHd h₀ 41 37) (hC2 : CodeHd h₀ 48 44) (N : News h₀ L s.heap ((sy, listOf sv.toArray e1) :: (kd, listOf (ks.map fun k => Value.ref k.tup).toArray e2) :: (pr, listOf pv.toArray ep) :: (L + 1 + 1 + 1 + 1 + 1, o5) :: (L + 1 + 1 + 1 + 1, o4) :: (L + 1 + 1 + 1, o3) :: (L + 1 + 1, o2) :: (L + 1, o1) :: (44, tabObj #[]) :: (37, tabObj #[]) :: ledOf ks)) (hlt : @LT.lt Nat _ 44 L ∧ @LT.lt Nat _ 37 L) (hd1 : dp + 40 < recursionLimit) (hu1 : un + 600 < cLine) (hE : PassesOwn (model PySem.Challenge.pw_sr0065_01 w) (ktrTop dp un gd (Str.ofString "law") (lawScope w.params) L fa cd (cellsFrom (L + 1) (lawScope w.params).names []) []) (lawEnv w.params L fa cd) E) (hQ : ∀ h' tk' m' news', Fr h₀ L h' m' → News h₀ L h' news' → GrownAll [(48, 44), (41, 37)] h' → Q (.ret (.bool true)) { s with heap := h', toks := tk' }) (d1 : o1.data = .cell (some (.int sg tsg))) (d2 : o2.data = .cell (some (.int tb ttb))) (d3 : o3.data = .cell x3) (d4 : o4.data = .cell x4) (d5 : o5.data = .cell x5) (hs3 : 3 ≤ sg) (hs8 : sg ≤ 8) (ht1 : 1 ≤ tb) (hts : tb ≤ sg) (hw4 : 4 ≤ wd) (hw603 : wd ≤ 603) (hU1 : Unit1 tn) (hU2 : Unit1 sd) (hpr : @LT.lt Nat _ (L + 1 + 1 + 1 + 1 + 1) pr) (hPv : IntsAre pv (prds wd.toNat (sg.toNat + 1))) (hkd : @LT.lt Nat _ pr sy ∧ @LT.lt Nat _ sy kd) (hS : S = rowsAt sg.toNat (rowsAll sg.toNat tb.toNat) (rowsAll sg.toNat tb.toNat).length) (hsv : IntsAre sv S.1) (hks : KsAre w.params S.2 ks) (hgt : ∀ p ∈ ledOf ks, @LT.lt Nat _ kd p.1),
    wpAny (model PySem.Challenge.pw_sr0065_01 w) (ktrTop dp un gd (Str.ofString "law") (lawScope w.params) L fa cd (cellsFrom (L + 1) (lawScope w.params).names []) []) (execs (lawBody w.params).tail.tail.tail.tail.tail.tail.tail.tail.tail.tail.tail.tail (lawEnv w.params L fa cd)) Q E s
noncomputable abbrev Tq : Type := ((((((World × Program) × (List Str)) × (((ExcName → Option Value) × (Str → Option Value)) × (Str → Option Value))) × (((Nat × Nat) × (Option (List Code))) × ((Addr × Value) × Around))) × ((((Heap × Heap) × Addr) × (((Str → Option Value) × Shared) × (Flow → Shared → Prop))) × ((((Value → Shared → Prop) × Obj) × Obj) × ((Obj × Obj) × Obj)))) × ((((((Option Value) × (Option Value)) × (Option Value)) × ((Int × Int) × Int)) × (((Int × Int) × Tok) × ((Tok × Tok) × Tok))) × ((((Tok × Addr) × Addr) × ((Addr × (List Value)) × (List Value))) × (((Nat × Nat) × Nat) × ((List KRec) × (List Int × List PK))))))
theorem exq : ∃ t : Tq, Pq t.1.1.1.1.1.1 t.1.1.1.1.1.2 t.1.1.1.1.2 t.1.1.1.2.1.1 t.1.1.1.2.1.2 t.1.1.1.2.2 t.1.1.2.1.1.1 t.1.1.2.1.1.2 t.1.1.2.1.2 t.1.1.2.2.1.1 t.1.1.2.2.1.2 t.1.1.2.2.2 t.1.2.1.1.1.1 t.1.2.1.1.1.2 t.1.2.1.1.2 t.1.2.1.2.1.1 t.1.2.1.2.1.2 t.1.2.1.2.2 t.1.2.2.1.1.1 t.1.2.2.1.1.2 t.1.2.2.1.2 t.1.2.2.2.1.1 t.1.2.2.2.1.2 t.1.2.2.2.2 t.2.1.1.1.1.1 t.2.1.1.1.1.2 t.2.1.1.1.2 t.2.1.1.2.1.1 t.2.1.1.2.1.2 t.2.1.1.2.2 t.2.1.2.1.1.1 t.2.1.2.1.1.2 t.2.1.2.1.2 t.2.1.2.2.1.1 t.2.1.2.2.1.2 t.2.1.2.2.2 t.2.2.1.1.1.1 t.2.2.1.1.1.2 t.2.2.1.1.2 t.2.2.1.2.1.1 t.2.2.1.2.1.2 t.2.2.1.2.2 t.2.2.2.1.1.1 t.2.2.2.1.1.2 t.2.2.2.1.2 t.2.2.2.2.1 t.2.2.2.2.2 → ∀ t : Tq, Pq t.1.1.1.1.1.1 t.1.1.1.1.1.2 t.1.1.1.1.2 t.1.1.1.2.1.1 t.1.1.1.2.1.2 t.1.1.1.2.2 t.1.1.2.1.1.1 t.1.1.2.1.1.2 t.1.1.2.1.2 t.1.1.2.2.1.1 t.1.1.2.2.1.2 t.1.1.2.2.2 t.1.2.1.1.1.1 t.1.2.1.1.1.2 t.1.2.1.1.2 t.1.2.1.2.1.1 t.1.2.1.2.1.2 t.1.2.1.2.2 t.1.2.2.1.1.1 t.1.2.2.1.1.2 t.1.2.2.1.2 t.1.2.2.2.1.1 t.1.2.2.2.1.2 t.1.2.2.2.2 t.2.1.1.1.1.1 t.2.1.1.1.1.2 t.2.1.1.1.2 t.2.1.1.2.1.1 t.2.1.1.2.1.2 t.2.1.1.2.2 t.2.1.2.1.1.1 t.2.1.2.1.1.2 t.2.1.2.1.2 t.2.1.2.2.1.1 t.2.1.2.2.1.2 t.2.1.2.2.2 t.2.2.1.1.1.1 t.2.2.1.1.1.2 t.2.2.1.1.2 t.2.2.1.2.1.1 t.2.2.1.2.1.2 t.2.2.1.2.2 t.2.2.2.1.1.1 t.2.2.2.1.1.2 t.2.2.2.1.2 t.2.2.2.2.1 t.2.2.2.2.2 := dk (α := Tq) (((((((aWorld 0, default), default), (((fun _ => default), (fun _ => default)), (fun _ => default))), (((default, default), default), ((default, default), ({} : Around)))), ((((default, default), default), (((fun _ => default), ({} : Shared)), (fun _ _ => True))), ((((fun _ _ => True), default), default), ((default, default), default)))), (((((default, default), default), ((default, default), default)), (((default, default), default), ((default, default), default))), ((((default, default), default), ((default, default), default)), (((default, default), default), (default, default)))))) _
noncomputable def cq : Tq := Classical.choose exq
@[irreducible] noncomputable def w : World := cq.1.1.1.1.1.1
@[irreducible] noncomputable def p : Program := cq.1.1.1.1.1.2
@[irreducible] noncomputable def loose : List Str := cq.1.1.1.1.2
@[irreducible] noncomputable def mean : ExcName → Option Value := cq.1.1.1.2.1.1
@[irreducible] noncomputable def mg : Str → Option Value := cq.1.1.1.2.1.2
@[irreducible] noncomputable def mb : Str → Option Value := cq.1.1.1.2.2
@[irreducible] noncomputable def dp : Nat := cq.1.1.2.1.1.1
@[irreducible] noncomputable def un : Nat := cq.1.1.2.1.1.2
@[irreducible] noncomputable def gd : Option (List Code) := cq.1.1.2.1.2
@[irreducible] noncomputable def fa : Addr := cq.1.1.2.2.1.1
@[irreducible] noncomputable def cd : Value := cq.1.1.2.2.1.2
@[irreducible] noncomputable def A₀ : Around := cq.1.1.2.2.2
@[irreducible] noncomputable def base : Heap := cq.1.2.1.1.1.1
@[irreducible] noncomputable def h₀ : Heap := cq.1.2.1.1.1.2
@[irreducible] noncomputable def L : Addr := cq.1.2.1.1.2
@[irreducible] noncomputable def m : Str → Option Value := cq.1.2.1.2.1.1
@[irreducible] noncomputable def s : Shared := cq.1.2.1.2.1.2
@[irreducible] noncomputable def Q : Flow → Shared → Prop := cq.1.2.1.2.2
@[irreducible] noncomputable def E : Value → Shared → Prop := cq.1.2.2.1.1.1
@[irreducible] noncomputable def o1 : Obj := cq.1.2.2.1.1.2
@[irreducible] noncomputable def o2 : Obj := cq.1.2.2.1.2
@[irreducible] noncomputable def o3 : Obj := cq.1.2.2.2.1.1
@[irreducible] noncomputable def o4 : Obj := cq.1.2.2.2.1.2
@[irreducible] noncomputable def o5 : Obj := cq.1.2.2.2.2
@[irreducible] noncomputable def x3 : Option Value := cq.2.1.1.1.1.1
@[irreducible] noncomputable def x4 : Option Value := cq.2.1.1.1.1.2
@[irreducible] noncomputable def x5 : Option Value := cq.2.1.1.1.2
@[irreducible] noncomputable def sg : Int := cq.2.1.1.2.1.1
@[irreducible] noncomputable def tb : Int := cq.2.1.1.2.1.2
@[irreducible] noncomputable def wd : Int := cq.2.1.1.2.2
@[irreducible] noncomputable def tn : Int := cq.2.1.2.1.1.1
@[irreducible] noncomputable def sd : Int := cq.2.1.2.1.1.2
@[irreducible] noncomputable def tsg : Tok := cq.2.1.2.1.2
@[irreducible] noncomputable def ttb : Tok := cq.2.1.2.2.1.1
@[irreducible] noncomputable def twd : Tok := cq.2.1.2.2.1.2
@[irreducible] noncomputable def ttn : Tok := cq.2.1.2.2.2
@[irreducible] noncomputable def tsd : Tok := cq.2.2.1.1.1.1
@[irreducible] noncomputable def pr : Addr := cq.2.2.1.1.1.2
@[irreducible] noncomputable def sy : Addr := cq.2.2.1.1.2
@[irreducible] noncomputable def kd : Addr := cq.2.2.1.2.1.1
@[irreducible] noncomputable def pv : List Value := cq.2.2.1.2.1.2
@[irreducible] noncomputable def sv : List Value := cq.2.2.1.2.2
@[irreducible] noncomputable def ep : Nat := cq.2.2.2.1.1.1
@[irreducible] noncomputable def e1 : Nat := cq.2.2.2.1.1.2
@[irreducible] noncomputable def e2 : Nat := cq.2.2.2.1.2
@[irreducible] noncomputable def ks : List KRec := cq.2.2.2.2.1
@[irreducible] noncomputable def S : List Int × List PK := cq.2.2.2.2.2
theorem coreq : Pq w p loose mean mg mb dp un gd fa cd A₀ base h₀ L m s Q E o1 o2 o3 o4 o5 x3 x4 x5 sg tb wd tn sd tsg ttb twd ttn tsd pr sy kd pv sv ep e1 e2 ks S := by
  unfold Pq
  intro B F X T hC1 hC2 N hlt hd1 hu1 hE hQ d1 d2 d3 d4 d5 hs3 hs8 ht1 hts hw4 hw603 hU1 hU2 hpr hPv hkd hS hsv hks hgt
  dsimp only [lawBody, lawEnv, lawO, stmtsOf, lawScope, scopeOf, List.tail]
  have en : (sg - tb).toNat = sg.toNat - tb.toNat := n_sub ht1 hts
  generalize hRR : ledOf ks = R at N hgt
  ((try dsimp only); walk1; (try ((with_reducible show wpAny _ _ (execs _ _) _ _ _); walk1)); (repeat' ((fail_if_success (with_reducible first | (show Pre _) | (show wpAny _ _ (subscriptTail _ _ _ _) _ _ _) | (show wpAny _ _ (pyIter _) _ _ _) | (show wpAny _ _ (execs _ _) _ _ _))); walk_at "TRY")))
  ((k_here; (rename IntsAre _ (prds _ _) => hP9q66); k_dflt (refine' item_prds ?Nq66 ?mq66 hP9q66 ?h1q66 ?h8q66 ?_ ?sq66 ?tq66; (case Nq66 => k_asm); (case mq66 => k_mem); (case h8q66 => omega); (case sq66 => first | exact rfl | with_unfolding_all rfl); (case tq66 => exact fun _ => rfl)); rotate_left; intro t9q66))
  all_goals (try ((with_reducible show Pre _); exact ⟨by omega, by omega⟩))
  (repeat' ((fail_if_success (with_reducible first | (show Pre _) | (show wpAny _ _ (subscriptTail _ _ _ _) _ _ _) | (show wpAny _ _ (pyIter _) _ _ _) | (show wpAny _ _ (execs _ _) _ _ _))); walk_at "TRY"))
  ((k_here; (rename IntsAre _ (prds _ _) => hP9q68); k_dflt (refine' item_prds ?Nq68 ?mq68 hP9q68 ?h1q68 ?h8q68 ?_ ?sq68 ?tq68; (case Nq68 => k_asm); (case mq68 => k_mem); (case h8q68 => omega); (case sq68 => first | exact rfl | with_unfolding_all rfl); (case tq68 => exact fun _ => rfl)); rotate_left; intro t9q68))
  all_goals (try ((with_reducible show Pre _); exact ⟨by omega, by omega⟩))
  (repeat' ((fail_if_success (with_reducible first | (show Pre _) | (show wpAny _ _ (subscriptTail _ _ _ _) _ _ _) | (show wpAny _ _ (pyIter _) _ _ _) | (show wpAny _ _ (execs _ _) _ _ _))); walk_at "TRY"))
  ((k_here; (rename IntsAre _ (prds _ _) => hP9q70); k_dflt (refine' item_prds ?Nq70 ?mq70 hP9q70 ?h1q70 ?h8q70 ?_ ?sq70 ?tq70; (case Nq70 => k_asm); (case mq70 => k_mem); (case h8q70 => omega); (case sq70 => first | exact rfl | with_unfolding_all rfl); (case tq70 => exact fun _ => rfl)); rotate_left; intro t9q70))
  all_goals (try ((with_reducible show Pre _); exact ⟨by omega, by omega⟩))
  (repeat' ((fail_if_success (with_reducible first | (show Pre _) | (show wpAny _ _ (subscriptTail _ _ _ _) _ _ _) | (show wpAny _ _ (pyIter _) _ _ _) | (show wpAny _ _ (execs _ _) _ _ _))); walk_at "TRY"))
  (rename IntsAre _ (prds _ _) => hPv)
  · have z1 := prd_bits (W := wd.toNat) (k := tb.toNat) (w_one hw4) (w_603 hw603) (n_le8 hts hs8)
    have z2 := prd_bits (W := wd.toNat) (k := (sg - tb).toNat) (w_one hw4) (w_603 hw603) (n_sub8 ht1 hs8)
    exact IntMulOk.of_bits (b_22 z1) (b_22 z2)
  (rename IntsAre _ (prds _ _) => hPv)
  (rename Fr _ _ _ _ => lF'); (rename News _ _ _ _ => lN')
  rw [en] at lN'
  obtain ⟨lt, T0, t0, t1, N0, q1, q2, q3, F0⟩ : ∃ lt T0 t0 t1, News h₀ L _ ((lt, listOf (([(T0, tupO [.int (prd wd.toNat sg.toNat) t0, .int (prd wd.toNat tb.toNat * prd wd.toNat (sg.toNat - tb.toNat)) t1, .int sg tsg, .ref sy])]).map fun q => Value.ref q.1).toArray 0) :: (sy, listOf sv.toArray e1) :: (kd, listOf (ks.map fun k => Value.ref k.tup).toArray e2) :: (pr, listOf pv.toArray ep) :: (L + 1 + 1 + 1 + 1 + 1, o5) :: (L + 1 + 1 + 1 + 1, o4) :: (L + 1 + 1 + 1, o3) :: (L + 1 + 1, o2) :: (L + 1, o1) :: (44, tabObj #[]) :: (37, tabObj #[]) :: (R ++ [(T0, tupO [.int (prd wd.toNat sg.toNat) t0, .int (prd wd.toNat tb.toNat * prd wd.toNat (sg.toNat - tb.toNat)) t1, .int sg tsg, .ref sy])])) ∧ @LT.lt Nat _ kd T0 ∧ @LT.lt Nat _ T0 lt ∧ AllLt lt R ∧ Fr h₀ L _ (fun z => if z = Str.ofString "lots" then some (.ref lt) else if z = Str.ofString "kinds" then some (.ref kd) else if z = Str.ofString "symmetries" then some (.ref sy) else if z = Str.ofString "products" then some (.ref pr) else if z = Str.ofString "side" then some (.int sd tsd) else if z = Str.ofString "turn" then some (.int tn ttn) else if z = Str.ofString "width" then some (.int wd twd) else m z) :=
    ⟨_, _, _, _, cb_drop lN' (by
      refine List.forall_mem_cons.mpr ⟨by k_mem, List.forall_mem_cons.mpr ⟨by k_mem, List.forall_mem_cons.mpr ⟨by k_mem, List.forall_mem_cons.mpr ⟨by k_mem, List.forall_mem_cons.mpr ⟨by k_mem, List.forall_mem_cons.mpr ⟨by k_mem, List.forall_mem_cons.mpr ⟨by k_mem, List.forall_mem_cons.mpr ⟨by k_mem, List.forall_mem_cons.mpr ⟨by k_mem, List.forall_mem_cons.mpr ⟨by k_mem, List.forall_mem_cons.mpr ⟨by k_mem, ?_⟩⟩⟩⟩⟩⟩⟩⟩⟩⟩⟩
      intro p hp
      rcases List.mem_append.mp hp with hp | hp
      · (repeat (refine List.Mem.tail _ ?_)); exact hp
      · rw [List.mem_singleton.mp hp]; k_mem), by omega, by omega, by tbn_find, lF'⟩
  clear lF' lN'
  have hkinds := kinds_ok sg.toNat (n_lt9 hs8) (n_ge3 hs3) tb.toNat (n_le hts) (n_ge1 ht1)
  rw [← hS] at hkinds
  (try dsimp only); walk1; (try ((with_reducible show wpAny _ _ (execs _ _) _ _ _); walk1))
  ((k_here; k_dflt (refine' for_stmt ?_ ?hsq72; (case hsq72 => exact (fun _ => rfl)); k_whole)))
  walk_at "STEPS"
  (k_dflt (refine' forT_list (σ := Led × Nat × Obj × Obj) (l := kd) (vs := ks.map fun k => Value.ref k.tup) (k := e2) (fun c => (lt, listOf ((c.1).map fun q => Value.ref q.1).toArray c.2.1) :: (sy, listOf sv.toArray e1) :: (kd, listOf (ks.map fun k => Value.ref k.tup).toArray e2) :: (pr, listOf pv.toArray ep) :: (L + 1 + 1 + 1 + 1 + 1, c.2.2.1) :: (L + 1 + 1 + 1 + 1, c.2.2.2) :: (L + 1 + 1 + 1, o3) :: (L + 1 + 1, o2) :: (L + 1, o1) :: (44, tabObj #[]) :: (37, tabObj #[]) :: (R ++ c.1)) (fun _ => []) [Str.ofString "lower", Str.ofString "count"] (fun i c => LotsAre ((sy, listOf sv.toArray e1) :: R) (lot0 wd.toNat sg.toNat tb.toNat sg S.1 :: (S.2.take i).map (lotK wd.toNat tb.toNat tb)) c.1 ∧ (∀ q ∈ c.1, @LT.lt Nat _ kd q.1 ∧ q.1 ≠ lt) ∧ (∃ x, c.2.2.1.data = .cell x) ∧ (∃ x, c.2.2.2.data = .cell x)) ([(T0, tupO [.int (prd wd.toNat sg.toNat) t0, .int (prd wd.toNat tb.toNat * prd wd.toNat (sg.toNat - tb.toNat)) t1, .int sg tsg, .ref sy])], 0, o5, o4) hE rfl F0 N0 ?hl ?hk ?h0 ?turn ?done))
  case hl => exact fun c => by k_mem
  case hk => exact fun p hp => nomatch hp
  case h0 => exact ⟨.cons (.head _) hsv .nil, (fun q hq => by rw [List.mem_singleton.mp hq]; exact ⟨q1, Nat.ne_of_lt q2⟩), ⟨_, d5⟩, ⟨_, d4⟩⟩
  case turn =>
    rintro i v ⟨ll, el, oS, oW⟩ u h tk I oI hi hv ⟨hV1, hV2, ⟨xS, hV3⟩, ⟨xW, hV4⟩⟩ hoff hIl F1 N1
    dsimp only at hV1 hV2 hV3 hV4 hoff F1 N1
    rw [List.getElem?_map] at hv
    cases hk9 : ks[i]? with
    | none => rw [hk9] at hv; cases hv
    | some k9 =>
      rw [hk9] at hv
      cases hv
      obtain ⟨pk, hpk, wk, hss⟩ := hks.at hk9
      obtain ⟨X2, tx2, tn2, tt2, tb2, b1, b2, b3, b4, b5, si2, vs2, f1, f2, f3, f4⟩ := wk
      have kin : ∀ p ∈ k9.led, p ∈ R := fun p hp => hRR ▸ ledOf_mem (List.mem_of_getElem? hk9) p hp
      have g1 := hgt _ (kin (k9.nm, k9.oN) (.tail _ (.tail _ (.head _))))
      have g2 := hgt _ (kin (k9.ct, k9.oC) (.tail _ (.tail _ (.tail _ (.head _)))))
      have g3 := hgt _ (kin (k9.x, instObj 132 k9.dx) (.tail _ (.tail _ (.tail _ (.tail _ (.head _))))))
      have g4 := hgt _ (kin (k9.dx, k9.oD) (.tail _ (.tail _ (.tail _ (.tail _ (.tail _ (.head _)))))))
      have r0 := kin (k9.tup, tupO [.ref k9.x, .ref k9.lst]) (.head _)
      have r1 := kin (k9.nm, k9.oN) (.tail _ (.tail _ (.head _)))
      have r2 := kin (k9.ct, k9.oC) (.tail _ (.tail _ (.tail _ (.head _))))
      have r3 := kin (k9.x, instObj 132 k9.dx) (.tail _ (.tail _ (.tail _ (.tail _ (.head _)))))
      have r4 := kin (k9.dx, k9.oD) (.tail _ (.tail _ (.tail _ (.tail _ (.tail _ (.head _))))))
      have r5 := kin (k9.lst, listOf k9.sv.toArray k9.ep) (.tail _ (.head _))
      have l1 : @LT.lt Nat _ k9.nm lt := tb_ltOf q3 _ r1
      have l2 : @LT.lt Nat _ k9.ct lt := tb_ltOf q3 _ r2
      have l3 : @LT.lt Nat _ k9.x lt := tb_ltOf q3 _ r3
      have l4 : @LT.lt Nat _ k9.dx lt := tb_ltOf q3 _ r4
      dsimp only at g1 g2 g3 g4
      rw [f1] at r4
      rw [f2] at r1
      rw [f3] at r2
      have hns : nsOk (wsF pk.1).ns sg.toNat = true := List.all_eq_true.mp hkinds pk (List.mem_of_getElem? hpk)
      generalize hR2 : R ++ ll = R2 at N1 hoff
      have hR2g : ∀ p ∈ R2, @LT.lt Nat _ kd p.1 := fun p hp => by
        rw [← hR2] at hp
        rcases List.mem_append.mp hp with hp | hp
        · exact hgt p hp
        · exact (hV2 p hp).1
      have hR2l : ∀ p ∈ R2, p.1 ≠ lt := fun p hp => by
        rw [← hR2] at hp
        rcases List.mem_append.mp hp with hp | hp
        · exact Nat.ne_of_lt (tb_ltOf q3 p hp)
        · exact (hV2 p hp).2
      have hR24 : ∀ p ∈ R2, p.1 ≠ L + 1 + 1 + 1 + 1 := fun p hp => Nat.ne_of_gt (Nat.lt_trans (Nat.lt_succ_self _) (Nat.lt_trans hpr (Nat.lt_trans hkd.1 (Nat.lt_trans hkd.2 (hR2g p hp)))))
      have hR25 : ∀ p ∈ R2, p.1 ≠ L + 1 + 1 + 1 + 1 + 1 := fun p hp => Nat.ne_of_gt (Nat.lt_trans hpr (Nat.lt_trans hkd.1 (Nat.lt_trans hkd.2 (hR2g p hp))))
      have hRs : ∀ p ∈ R, p ∈ R2 := fun p hp => hR2 ▸ List.mem_append_left _ hp
      have hIlt : @LT.lt Nat _ lt I := hIl (lt, _) (.head _)
      have N2 := cb_drop (news := (k9.nm, tupO [.ref k9.ct, .int ((wsF pk.1).b : Int) tb2]) :: (k9.ct, tupO vs2) :: (k9.x, instObj 132 k9.dx) :: (k9.dx, wsDict w.params X2 tx2 (wsF pk.1).n (wsF pk.1).t tn2 tt2 k9.nm si2 b1 b2 b3 b4 b5) :: (I, oI) :: (lt, listOf ((ll).map fun q => Value.ref q.1).toArray el) :: (sy, listOf sv.toArray e1) :: (kd, listOf (ks.map fun k => Value.ref k.tup).toArray e2) :: (pr, listOf pv.toArray ep) :: (L + 1 + 1 + 1 + 1 + 1, oS) :: (L + 1 + 1 + 1 + 1, oW) :: (L + 1 + 1 + 1, o3) :: (L + 1 + 1, o2) :: (L + 1, o1) :: (44, tabObj #[]) :: (37, tabObj #[]) :: R2) N1 (List.forall_mem_cons.mpr ⟨by (repeat (refine List.Mem.tail _ ?_)); exact hRs _ r1, List.forall_mem_cons.mpr ⟨by (repeat (refine List.Mem.tail _ ?_)); exact hRs _ r2, List.forall_mem_cons.mpr ⟨by (repeat (refine List.Mem.tail _ ?_)); exact hRs _ r3, List.forall_mem_cons.mpr ⟨by (repeat (refine List.Mem.tail _ ?_)); exact hRs _ r4, fun p hp => hp⟩⟩⟩⟩)
      clear N1
      (k_dflt (refine assign_two (v₁ := .ref k9.x) (v₂ := .ref k9.lst) rfl F1 (List.forall_mem_cons.mpr ⟨N2 (k9.tup, _) (by (repeat (refine List.Mem.tail _ ?_)); exact hRs _ r0), N2⟩) (.head _) ?_))
      intro h9 F9 N9
      clear N2 F1
      replace N9 := cb_drop N9 (fun p hp => List.Mem.tail _ hp)
      (try dsimp only)
      (try k_fold)
      walk_at "STEPS"
      (rename Fr _ _ _ _ => lF'); (rename News _ _ _ _ => lN')
      have hnb : ∀ c ∈ (wsF pk.1).ns, 0 ≤ c ∧ c ≤ (sg.toNat : Int) := fun c hc => by
        have z := hns
        simp only [nsOk, Bool.and_eq_true, List.all_eq_true, decide_eq_true_eq] at z
        exact z.1 c hc
      have hnl : (wsF pk.1).ns.length ≤ 9 := by
        have z := hns
        simp only [nsOk, Bool.and_eq_true, List.all_eq_true, decide_eq_true_eq] at z
        exact z.2
      (with_unfolding_all refine' iter_tuple (σ := Int × Tok) (vs := vs2) (fun _ => _) (fun c => [(Str.ofString "lower", .int c.1 c.2)]) [Str.ofString "count"] (fun j c => c.1 = lowK wd.toNat ((wsF pk.1).ns.take j)) (1, _) (by rfl) lF' lN' ?hl2 ?hk2 ?h02 ?turn2 ?done2)
      case hl2 => exact fun _ => .tail _ (.head _)
      case hk2 => (with_unfolding_all kst_all)
      case h02 => rfl
      case turn2 =>
        rintro j v ⟨lo, tlo⟩ u2 h2 tk2 I2 oI2 hj hv2 hlo hne2 F3 N3
        clear lF' lN'
        dsimp only at hlo hne2 F3 N3
        subst hlo
        obtain ⟨x, tx, rfl, hx⟩ := f4.at j v hv2
        have hxb := hnb x (List.mem_of_getElem? hx)
        (try k_fold)
        (repeat' ((fail_if_success (with_reducible first | (show Pre _) | (show wpAny _ _ (subscriptTail _ _ _ _) _ _ _) | (show wpAny _ _ (pyIter _) _ _ _) | (show wpAny _ _ (execs _ _) _ _ _))); walk_at "TRY"))
        walk1
        (repeat' ((fail_if_success (with_reducible first | (show Pre _) | (show wpAny _ _ (subscriptTail _ _ _ _) _ _ _) | (show wpAny _ _ (pyIter _) _ _ _) | (show wpAny _ _ (execs _ _) _ _ _))); walk_at "TRY"))
        ((k_here; (rename IntsAre _ (prds _ _) => hP9q75); k_dflt (refine' item_prds ?Nq75 ?mq75 hP9q75 ?h1q75 ?h8q75 ?_ ?sq75 ?tq75; (case Nq75 => k_asm); (case mq75 => k_mem); (case h8q75 => omega); (case sq75 => first | exact rfl | with_unfolding_all rfl); (case tq75 => exact fun _ => rfl)); rotate_left; intro t9q75))
        all_goals (try ((with_reducible show Pre _); exact ⟨by omega, by omega⟩))
        (repeat' ((fail_if_success (with_reducible first | (show Pre _) | (show wpAny _ _ (subscriptTail _ _ _ _) _ _ _) | (show wpAny _ _ (pyIter _) _ _ _) | (show wpAny _ _ (execs _ _) _ _ _))); walk_at "TRY"))
        · have z1 := low_bits (W := wd.toNat) (w_one hw4) (w_603 hw603) ((wsF pk.1).ns.take j) (fun c hc => n_c8 (hnb c (List.mem_of_mem_take hc)) hs8) (take_9 hnl)
          have z2 := prd_bits (W := wd.toNat) (k := x.toNat) (w_one hw4) (w_603 hw603) (n_c8 hxb hs8)
          exact IntMulOk.of_bits z1 (b_22 z2)
        · walk_at "STEPS"
          refine TurnOk.intro (_, _) (by assumption) (by assumption) (.head _) (fun p hp => .tail _ hp) hne2 (by with_unfolding_all kst_all) (by ((intro zq77 h2q77 h3q77; (try simp only [List.forall_mem_cons, List.not_mem_nil, false_implies, implies_true, and_true, ne_eq] at h2q77); (simp only [List.contains_cons, List.contains_nil, Bool.or_false, Bool.or_eq_false_iff, beq_eq_false_iff_ne, ne_eq] at h3q77); first | (simp [h2q77, h3q77, kstB]; done) | (simp [h3q77, kstB]; done) | simp_all [kstB]))) ?_
          exact (low_step wd.toNat (wsF pk.1).ns hx).symm
      case done2 =>
        rintro ⟨lo, tlo⟩ u2 h2 tk2 hlo F3 N3
        clear lF' lN'
        dsimp only at hlo F3 N3
        have hsz : (List.map (fun q => Value.ref q.1) ll).toArray.size ≤ sizeLine := by
          rw [List.size_toArray, List.length_map, ← hV1.length, sizeLine_eq, List.length_cons, List.length_map, List.length_take]
          have z := (rowsAt_len sg.toNat (rowsAll sg.toNat tb.toNat) (rowsAll sg.toNat tb.toNat).length).2.1
          rw [← hS] at z
          have z2 : (rowsAll sg.toNat tb.toNat).length ≤ 128 := Nat.le_trans (rowsN_len _ _ _) (pow_128 hs8)
          omega
        (try dsimp only)
        (try k_fold)
        (repeat' ((fail_if_success (with_reducible first | (show Pre _) | (show wpAny _ _ (subscriptTail _ _ _ _) _ _ _) | (show wpAny _ _ (pyIter _) _ _ _) | (show wpAny _ _ (execs _ _) _ _ _))); walk_at "TRY"))
        ((try dsimp only); walk1; (try ((with_reducible show wpAny _ _ (execs _ _) _ _ _); walk1)); (repeat' ((fail_if_success (with_reducible first | (show Pre _) | (show wpAny _ _ (subscriptTail _ _ _ _) _ _ _) | (show wpAny _ _ (pyIter _) _ _ _) | (show wpAny _ _ (execs _ _) _ _ _))); walk_at "TRY")))
        ((k_here; (rename IntsAre _ (prds _ _) => hP9q80); k_dflt (refine' item_prds ?Nq80 ?mq80 hP9q80 ?h1q80 ?h8q80 ?_ ?sq80 ?tq80; (case Nq80 => k_asm); (case mq80 => k_mem); (case h8q80 => omega); (case sq80 => first | exact rfl | with_unfolding_all rfl); (case tq80 => exact fun _ => rfl)); rotate_left; intro t9q80))
        all_goals (try ((with_reducible show Pre _); exact ⟨by omega, by omega⟩))
        walk_at "STEPS"
        (rename News _ _ _ _ => N6); (simp only [List.push_toArray] at N6)
        obtain ⟨T9, t9, oS', oW', N7, q7, dS', dW'⟩ : ∃ T9 t9 oS' oW', News h₀ L _ ((I, oI) :: (lt, listOf ((ll.map fun q => Value.ref q.1) ++ [Value.ref T9]).toArray (el + 1)) :: (sy, listOf sv.toArray e1) :: (kd, listOf (ks.map fun k => Value.ref k.tup).toArray e2) :: (pr, listOf pv.toArray ep) :: (L + 1 + 1 + 1 + 1 + 1, oS') :: (L + 1 + 1 + 1 + 1, oW') :: (L + 1 + 1 + 1, o3) :: (L + 1 + 1, o2) :: (L + 1, o1) :: (44, tabObj #[]) :: (37, tabObj #[]) :: (R ++ (ll ++ [(T9, tupO [.int (prd wd.toNat tb.toNat) t9, .int lo tlo, .int tb ttb, .ref k9.lst])]))) ∧ (@LT.lt Nat _ lt T9 ∧ @LT.lt Nat _ I T9) ∧ (∃ x, oS'.data = .cell x) ∧ (∃ x, oW'.data = .cell x) :=
          ⟨_, _, _, _, cb_drop N6 (by
            refine List.forall_mem_cons.mpr ⟨by k_mem, List.forall_mem_cons.mpr ⟨by k_mem, List.forall_mem_cons.mpr ⟨by k_mem, List.forall_mem_cons.mpr ⟨by k_mem, List.forall_mem_cons.mpr ⟨by k_mem, List.forall_mem_cons.mpr ⟨by k_mem, List.forall_mem_cons.mpr ⟨by k_mem, List.forall_mem_cons.mpr ⟨by k_mem, List.forall_mem_cons.mpr ⟨by k_mem, List.forall_mem_cons.mpr ⟨by k_mem, List.forall_mem_cons.mpr ⟨by k_mem, List.forall_mem_cons.mpr ⟨by k_mem, ?_⟩⟩⟩⟩⟩⟩⟩⟩⟩⟩⟩⟩
            intro p hp
            rcases List.mem_append.mp hp with hp | hp
            · (repeat (refine List.Mem.tail _ ?_)); exact hRs p hp
            · rcases List.mem_append.mp hp with hp | hp
              · (repeat (refine List.Mem.tail _ ?_)); exact hR2 ▸ List.mem_append_right _ hp
              · rw [List.mem_singleton.mp hp]; k_mem), by omega, ⟨_, by assumption⟩, ⟨_, by assumption⟩⟩
        have q7a := q7.1
        have q7b := q7.2
        refine TurnOk.intro (ll ++ [(T9, tupO [.int (prd wd.toNat tb.toNat) t9, .int lo tlo, .int tb ttb, .ref k9.lst])], el + 1, oS', oW') (by assumption) N7 (.head _) ?_ ?_ (fun p hp => nomatch hp) ?_ ?_
        · dsimp only
          rw [List.map_append]
          exact fun p hp => .tail _ hp
        · dsimp only
          have hfix : ∀ q ∈ (lt, listOf (((ll ++ [(T9, tupO [.int (prd wd.toNat tb.toNat) t9, .int lo tlo, .int tb ttb, .ref k9.lst])])).map fun q => Value.ref q.1).toArray (el + 1)) :: (sy, listOf sv.toArray e1) :: (kd, listOf (ks.map fun k => Value.ref k.tup).toArray e2) :: (pr, listOf pv.toArray ep) :: (L + 1 + 1 + 1 + 1 + 1, oS') :: (L + 1 + 1 + 1 + 1, oW') :: (L + 1 + 1 + 1, o3) :: (L + 1 + 1, o2) :: (L + 1, o1) :: (44, tabObj #[]) :: (37, tabObj #[]) :: [], q.1 ≠ I := by
            refine List.forall_mem_cons.mpr ⟨?_, List.forall_mem_cons.mpr ⟨?_, List.forall_mem_cons.mpr ⟨?_, List.forall_mem_cons.mpr ⟨?_, List.forall_mem_cons.mpr ⟨?_, List.forall_mem_cons.mpr ⟨?_, List.forall_mem_cons.mpr ⟨?_, List.forall_mem_cons.mpr ⟨?_, List.forall_mem_cons.mpr ⟨?_, List.forall_mem_cons.mpr ⟨?_, List.forall_mem_cons.mpr ⟨?_, List.forall_mem_nil _⟩⟩⟩⟩⟩⟩⟩⟩⟩⟩⟩
            · (have z := hIl (lt, _) (.head _)); exact Nat.ne_of_lt z
            · (have z := hIl (sy, _) (.tail _ (.head _))); exact Nat.ne_of_lt z
            · (have z := hIl (kd, _) (.tail _ (.tail _ (.head _)))); exact Nat.ne_of_lt z
            · (have z := hIl (pr, _) (.tail _ (.tail _ (.tail _ (.head _))))); exact Nat.ne_of_lt z
            · (have z := hIl (L + 1 + 1 + 1 + 1 + 1, _) (.tail _ (.tail _ (.tail _ (.tail _ (.head _)))))); exact Nat.ne_of_lt z
            · (have z := hIl (L + 1 + 1 + 1 + 1, _) (.tail _ (.tail _ (.tail _ (.tail _ (.tail _ (.head _))))))); exact Nat.ne_of_lt z
            · (have z := hIl (L + 1 + 1 + 1, _) (.tail _ (.tail _ (.tail _ (.tail _ (.tail _ (.tail _ (.head _)))))))); exact Nat.ne_of_lt z
            · (have z := hIl (L + 1 + 1, _) (.tail _ (.tail _ (.tail _ (.tail _ (.tail _ (.tail _ (.tail _ (.head _))))))))); exact Nat.ne_of_lt z
            · (have z := hIl (L + 1, _) (.tail _ (.tail _ (.tail _ (.tail _ (.tail _ (.tail _ (.tail _ (.tail _ (.head _)))))))))); exact Nat.ne_of_lt z
            · (have z := hIl (44, _) (.tail _ (.tail _ (.tail _ (.tail _ (.tail _ (.tail _ (.tail _ (.tail _ (.tail _ (.head _))))))))))); exact Nat.ne_of_lt z
            · (have z := hIl (37, _) (.tail _ (.tail _ (.tail _ (.tail _ (.tail _ (.tail _ (.tail _ (.tail _ (.tail _ (.tail _ (.head _)))))))))))); exact Nat.ne_of_lt z
          intro p hp
          rcases List.mem_append.mp (show p ∈ ((lt, listOf (((ll ++ [(T9, tupO [.int (prd wd.toNat tb.toNat) t9, .int lo tlo, .int tb ttb, .ref k9.lst])])).map fun q => Value.ref q.1).toArray (el + 1)) :: (sy, listOf sv.toArray e1) :: (kd, listOf (ks.map fun k => Value.ref k.tup).toArray e2) :: (pr, listOf pv.toArray ep) :: (L + 1 + 1 + 1 + 1 + 1, oS') :: (L + 1 + 1 + 1 + 1, oW') :: (L + 1 + 1 + 1, o3) :: (L + 1 + 1, o2) :: (L + 1, o1) :: (44, tabObj #[]) :: (37, tabObj #[]) :: []) ++ (R ++ (ll ++ [(T9, tupO [.int (prd wd.toNat tb.toNat) t9, .int lo tlo, .int tb ttb, .ref k9.lst])])) from hp) with hp | hp
          · exact hfix p hp
          · rw [← List.append_assoc] at hp
            rcases List.mem_append.mp hp with hp | hp
            · rw [hR2] at hp
              exact hoff p (by (repeat (refine List.Mem.tail _ ?_)); exact hp)
            · rw [List.mem_singleton.mp hp]
              exact Nat.ne_of_gt q7b
        · ((intro zq81 h2q81 h3q81; (try simp only [List.forall_mem_cons, List.not_mem_nil, false_implies, implies_true, and_true, ne_eq] at h2q81); (simp only [List.contains_cons, List.contains_nil, Bool.or_false, Bool.or_eq_false_iff, beq_eq_false_iff_ne, ne_eq] at h3q81); first | (simp [h2q81, h3q81, kstB]; done) | (simp [h3q81, kstB]; done) | simp_all [kstB]))
        · refine ⟨?_, ?_, dS', dW'⟩
          · rw [List.take_add_one, hpk]
            subst hlo
            rw [f4.length, List.take_length]
            have z := hV1.snoc (a := lotK wd.toNat tb.toNat tb pk) (T := T9) (tu := t9) (tl := tlo) (tp := ttb) (.tail _ r5) hss
            rw [List.map_append]
            exact z
          · intro q hq
            rcases List.mem_append.mp hq with hq | hq
            · exact hV2 q hq
            · rw [List.mem_singleton.mp hq]
              exact ⟨by omega, Nat.ne_of_gt q7a⟩
  case done =>
    rintro ⟨ll, el, oS, oW⟩ u h tk ⟨hV1, hV2, ⟨xS, hV3⟩, ⟨xW, hV4⟩⟩ F2 N2
    dsimp only at hV1 hV2 hV3 hV4 F2 N2
    rw [List.length_map, ← hks.length, List.take_length] at hV1
    replace F2 : Fr h₀ L h _ := F2
    have F3 := frN (Str.ofString "lots") (.ref lt) (frN (Str.ofString "products") (.ref pr) (frN (Str.ofString "side") (.int sd tsd) (frN (Str.ofString "turn") (.int tn ttn) (frN (Str.ofString "width") (.int wd twd) F2 rfl) rfl) rfl) rfl) rfl
    (k_dflt (refine' law_mid5 (rest := (sy, listOf sv.toArray e1) :: (R ++ ll)) B F3 X T hC1 hC2 (cb_drop N2 ?sub) hlt hd1 hu1 hE ?hQ d1 d2 d3 hV4 hV3 hs3 hs8 ht1 hts hw4 hw603 hU1 hU2 hpr hPv ?o1 (fun q hq => .tail _ (List.mem_append_right _ hq)) ?o2 hS (hV1.mono ?mo)))
    case sub => (((try dsimp only); (repeat (refine List.forall_mem_cons.mpr ⟨by k_mem, ?_⟩)); first | exact List.forall_mem_nil _ | walk_at "SUB"))
    case hQ => (intro h' tk' m' n' F' N' G'; exact hQ h' tk' m' n' F' N' G')
    case o1 => omega
    case mo => exact List.forall_mem_cons.mpr ⟨.head _, fun p hp => .tail _ (List.mem_append_left _ hp)⟩
    case o2 =>
      refine List.forall_mem_cons.mpr ⟨⟨by (show @LT.lt Nat _ _ _); omega, Nat.ne_of_lt (by (show @LT.lt Nat _ _ _); omega)⟩, fun p hp => ?_⟩
      rcases List.mem_append.mp hp with hp | hp
      · have z := hgt p hp
        exact ⟨by omega, Nat.ne_of_lt (tb_ltOf q3 p hp)⟩
      · have z := hV2 p hp
        exact ⟨by omega, z.2⟩
theorem allq (w : World) (p : Program) (loose : List Str) (mean : ExcName → Option Value) (mg : Str → Option Value) (mb : Str → Option Value) (dp : Nat) (un : Nat) (gd : Option (List Code)) (fa : Addr) (cd : Value) (A₀ : Around) (base : Heap) (h₀ : Heap) (L : Addr) (m : Str → Option Value) (s : Shared) (Q : Flow → Shared → Prop) (E : Value → Shared → Prop) (o1 : Obj) (o2 : Obj) (o3 : Obj) (o4 : Obj) (o5 : Obj) (x3 : Option Value) (x4 : Option Value) (x5 : Option Value) (sg : Int) (tb : Int) (wd : Int) (tn : Int) (sd : Int) (tsg : Tok) (ttb : Tok) (twd : Tok) (ttn : Tok) (tsd : Tok) (pr : Addr) (sy : Addr) (kd : Addr) (pv : List Value) (sv : List Value) (ep : Nat) (e1 : Nat) (e2 : Nat) (ks : List KRec) (S : List Int × List PK) : Pq w p loose mean mg mb dp un gd fa cd A₀ base h₀ L m s Q E o1 o2 o3 o4 o5 x3 x4 x5 sg tb wd tn sd tsg ttb twd ttn tsd pr sy kd pv sv ep e1 e2 ks S := by
  with_unfolding_all exact Classical.choose_spec exq coreq ((((((w, p), loose), ((mean, mg), mb)), (((dp, un), gd), ((fa, cd), A₀))), ((((base, h₀), L), ((m, s), Q)), (((E, o1), o2), ((o3, o4), o5)))), (((((x3, x4), x5), ((sg, tb), wd)), (((tn, sd), tsg), ((ttb, twd), ttn))), ((((tsd, pr), sy), ((kd, pv), sv)), (((ep, e1), e2), (ks, S)))))
end Clawmid4
section
variable {w : World} {p : Program} {loose : List Str} {mean : ExcName → Option Value} {mg mb : Str → Option Value}
theorem law_mid4 {dp un : Nat} {gd : Option (List Code)} {fa : Addr} {cd : Value} {A₀ : Around} {base h₀ : Heap} {L : Addr} {m : Str → Option Value} {s : Shared} {Q : Flow → Shared → Prop} {E : Value → Shared → Prop} {o1 o2 o3 o4 o5 : Obj} {x3 x4 x5 : Option Value} {sg tb wd tn sd : Int} {tsg ttb twd ttn tsd : Tok} {pr sy kd : Addr} {pv sv : List Value} {ep e1 e2 : Nat} {ks : List KRec} {S : List Int × List PK}
    (B : Below A₀ base [] h₀) (F : Fr h₀ L s.heap (fun z => if z = Str.ofString "kinds" then some (.ref kd) else if z = Str.ofString "symmetries" then some (.ref sy) else if z = Str.ofString "products" then some (.ref pr) else if z = Str.ofString "side" then some (.int sd tsd) else if z = Str.ofString "turn" then some (.int tn ttn) else if z = Str.ofString "width" then some (.int wd twd) else m z)) (X : (hd.heap_39 w.params).In h₀) (T : Top p loose mean mg mb h₀) (hC1 : CodeHd h₀ 41 37) (hC2 : CodeHd h₀ 48 44)
    (N : News h₀ L s.heap ((sy, listOf sv.toArray e1) :: (kd, listOf (ks.map fun k => Value.ref k.tup).toArray e2) :: (pr, listOf pv.toArray ep) :: (L + 1 + 1 + 1 + 1 + 1, o5) :: (L + 1 + 1 + 1 + 1, o4) :: (L + 1 + 1 + 1, o3) :: (L + 1 + 1, o2) :: (L + 1, o1) :: (44, tabObj #[]) :: (37, tabObj #[]) :: ledOf ks))
    (hlt : @LT.lt Nat _ 44 L ∧ @LT.lt Nat _ 37 L) (hd1 : dp + 40 < recursionLimit) (hu1 : un + 600 < cLine)
    (hE : PassesOwn (model PySem.Challenge.pw_sr0065_01 w) (ktrTop dp un gd (Str.ofString "law") (lawScope w.params) L fa cd (cellsFrom (L + 1) (lawScope w.params).names []) []) (lawEnv w.params L fa cd) E)
    (hQ : ∀ h' tk' m' news', Fr h₀ L h' m' → News h₀ L h' news' → GrownAll [(48, 44), (41, 37)] h' → Q (.ret (.bool true)) { s with heap := h', toks := tk' })
    (d1 : o1.data = .cell (some (.int sg tsg))) (d2 : o2.data = .cell (some (.int tb ttb))) (d3 : o3.data = .cell x3) (d4 : o4.data = .cell x4) (d5 : o5.data = .cell x5) (hs3 : 3 ≤ sg) (hs8 : sg ≤ 8) (ht1 : 1 ≤ tb) (hts : tb ≤ sg) (hw4 : 4 ≤ wd) (hw603 : wd ≤ 603) (hU1 : Unit1 tn) (hU2 : Unit1 sd) (hpr : @LT.lt Nat _ (L + 1 + 1 + 1 + 1 + 1) pr) (hPv : IntsAre pv (prds wd.toNat (sg.toNat + 1)))
    (hkd : @LT.lt Nat _ pr sy ∧ @LT.lt Nat _ sy kd) (hS : S = rowsAt sg.toNat (rowsAll sg.toNat tb.toNat) (rowsAll sg.toNat tb.toNat).length) (hsv : IntsAre sv S.1) (hks : KsAre w.params S.2 ks) (hgt : ∀ p ∈ ledOf ks, @LT.lt Nat _ kd p.1) :
    wpAny (model PySem.Challenge.pw_sr0065_01 w) (ktrTop dp un gd (Str.ofString "law") (lawScope w.params) L fa cd (cellsFrom (L + 1) (lawScope w.params).names []) []) (execs (lawBody w.params).tail.tail.tail.tail.tail.tail.tail.tail.tail.tail.tail.tail (lawEnv w.params L fa cd)) Q E s :=
  Clawmid4.allq w p loose mean mg mb dp un gd fa cd A₀ base h₀ L m s Q E o1 o2 o3 o4 o5 x3 x4 x5 sg tb wd tn sd tsg ttb twd ttn tsd pr sy kd pv sv ep e1 e2 ks S B F X T hC1 hC2 N hlt hd1 hu1 hE hQ d1 d2 d3 d4 d5 hs3 hs8 ht1 hts hw4 hw603 hU1 hU2 hpr hPv hkd hS hsv hks hgt
end
end
-- LV
theorem fresh_LV : True := by
  w_top off
  exact trivial
section
section
variable {w : World} {p : Program} {loose : List Str} {mean : ExcName → Option Value} {mg mb : Str → Option Value}
end
namespace Clawmid3
noncomputable def Pq (w : World) (p : Program) (loose : List Str) (mean : ExcName → Option Value) (mg : Str → Option Value) (mb : Str → Option Value) (dp : Nat) (un : Nat) (gd : Option (List Code)) (fa : Addr) (cd : Value) (A₀ : Around) (base : Heap) (h₀ : Heap) (L : Addr) (m : Str → Option Value) (s : Shared) (Q : Flow → Shared → Prop) (E : Value → Shared → Prop) (o1 : Obj) (o2 : Obj) (o3 : Obj) (o4 : Obj) (o5 : Obj) (x3 : Option Value) (x4 : Option Value) (x5 : Option Value) (sg : Int) (tb : Int) (wd : Int) (tn : Int) (sd : Int) (tsg : Tok) (ttb : Tok) (twd : Tok) (ttn : Tok) (tsd : Tok) (pr : Addr) (pv : List Value) (ep : Nat) (rw : Addr) (rv : List Value) (er : Nat) : Prop := ∀ (B : Below A₀ base [] h₀) (F : Fr h₀ L s.heap (fun z => if z = Str.ofString "rows" then some (.ref rw) else if z = Str.ofString "products" then some (.ref pr) else if z = Str.ofString "side" then some (.int sd tsd) else if z = Str.ofString "turn" then some (.int tn ttn) else if z = Str.ofString "width" then some (.int wd twd) else m z)) (X : (hd.heap_39 w.params).In h₀) (T : Top p loose mean mg mb h₀) (hC1 : CodeHd h₀ 41 37) (hC2 : CodeHd h₀ 48 44) (N : News h₀ L s.heap ((rw, listOf rv.toArray er) :: (pr, listOf pv.toArray ep) :: (L + 1 + 1 + 1 + 1 + 1, o5) :: (L + 1 + 1 + 1 + 1, o4) :: (L + 1 + 1 + 1, o3) :: (L + 1 + 1, o2) :: (L + 1, o1) :: (44, tabObj #[]) :: (37, tabObj #[]) :: [])) (hlt : @LT.lt Nat _ 44 L ∧ @LT.lt Nat _ 37 L) (hd1 : dp + 40 < recursionLimit) (hu1 : un + 600 < cLine) (hE : PassesOwn (model PySem.Challenge.pw_sr0065_01 w) (ktrTop dp un gd (Str.ofString "law") (lawScope w.params) L fa cd (cellsFrom (L + 1) (lawScope w.params).names []) []) (lawEnv w.params L fa cd) E) (hQ : ∀ h' tk' m' news', Fr h₀ L h' m' → News h₀ L h' news' → GrownAll [(48, 44), (41, 37)] h' → Q (.ret (.bool true)) { s with heap := h', toks := tk' }) (d1 : o1.data = .cell (some (.int sg tsg))) (d2 : o2.data = .cell (some (.int tb ttb))) (d3 : o3.data = .cell x3) (d4 : o4.data = .cell x4) (d5 : o5.data = .cell x5) (hs3 : 3 ≤ sg) (hs8 : sg ≤ 8) (ht1 : 1 ≤ tb) (hts : tb ≤ sg) (hw4 : 4 ≤ wd) (hw603 : wd ≤ 603) (hU1 : Unit1 tn) (hU2 : Unit1 sd) (hpr : @LT.lt Nat _ (L + 1 + 1 + 1 + 1 + 1) pr) (hPv : IntsAre pv (prds wd.toNat (sg.toNat + 1))) (hrv : TextsAre rv (rowsN (sg - tb).toNat tb.toNat (sg - 1).toNat)) (hrw : @Ne Nat rw (L + 1 + 1 + 1) ∧ @Ne Nat rw (L + 1 + 1 + 1 + 1)),
    wpAny (model PySem.Challenge.pw_sr0065_01 w) (ktrTop dp un gd (Str.ofString "law") (lawScope w.params) L fa cd (cellsFrom (L + 1) (lawScope w.params).names []) []) (execs (lawBody w.params).tail.tail.tail.tail.tail.tail.tail.tail.tail (lawEnv w.params L fa cd)) Q E s
noncomputable abbrev Tq : Type := ((((((World × Program) × (List Str)) × (((ExcName → Option Value) × (Str → Option Value)) × (Str → Option Value))) × (((Nat × Nat) × (Option (List Code))) × (Addr × Value))) × ((((Around × Heap) × Heap) × ((Addr × (Str → Option Value)) × Shared)) × ((((Flow → Shared → Prop) × (Value → Shared → Prop)) × Obj) × (Obj × Obj)))) × (((((Obj × Obj) × (Option Value)) × (((Option Value) × (Option Value)) × Int)) × (((Int × Int) × Int) × (Int × Tok))) × ((((Tok × Tok) × Tok) × (Tok × Addr)) × ((((List Value) × Nat) × Addr) × ((List Value) × Nat)))))
theorem exq : ∃ t : Tq, Pq t.1.1.1.1.1.1 t.1.1.1.1.1.2 t.1.1.1.1.2 t.1.1.1.2.1.1 t.1.1.1.2.1.2 t.1.1.1.2.2 t.1.1.2.1.1.1 t.1.1.2.1.1.2 t.1.1.2.1.2 t.1.1.2.2.1 t.1.1.2.2.2 t.1.2.1.1.1.1 t.1.2.1.1.1.2 t.1.2.1.1.2 t.1.2.1.2.1.1 t.1.2.1.2.1.2 t.1.2.1.2.2 t.1.2.2.1.1.1 t.1.2.2.1.1.2 t.1.2.2.1.2 t.1.2.2.2.1 t.1.2.2.2.2 t.2.1.1.1.1.1 t.2.1.1.1.1.2 t.2.1.1.1.2 t.2.1.1.2.1.1 t.2.1.1.2.1.2 t.2.1.1.2.2 t.2.1.2.1.1.1 t.2.1.2.1.1.2 t.2.1.2.1.2 t.2.1.2.2.1 t.2.1.2.2.2 t.2.2.1.1.1.1 t.2.2.1.1.1.2 t.2.2.1.1.2 t.2.2.1.2.1 t.2.2.1.2.2 t.2.2.2.1.1.1 t.2.2.2.1.1.2 t.2.2.2.1.2 t.2.2.2.2.1 t.2.2.2.2.2 → ∀ t : Tq, Pq t.1.1.1.1.1.1 t.1.1.1.1.1.2 t.1.1.1.1.2 t.1.1.1.2.1.1 t.1.1.1.2.1.2 t.1.1.1.2.2 t.1.1.2.1.1.1 t.1.1.2.1.1.2 t.1.1.2.1.2 t.1.1.2.2.1 t.1.1.2.2.2 t.1.2.1.1.1.1 t.1.2.1.1.1.2 t.1.2.1.1.2 t.1.2.1.2.1.1 t.1.2.1.2.1.2 t.1.2.1.2.2 t.1.2.2.1.1.1 t.1.2.2.1.1.2 t.1.2.2.1.2 t.1.2.2.2.1 t.1.2.2.2.2 t.2.1.1.1.1.1 t.2.1.1.1.1.2 t.2.1.1.1.2 t.2.1.1.2.1.1 t.2.1.1.2.1.2 t.2.1.1.2.2 t.2.1.2.1.1.1 t.2.1.2.1.1.2 t.2.1.2.1.2 t.2.1.2.2.1 t.2.1.2.2.2 t.2.2.1.1.1.1 t.2.2.1.1.1.2 t.2.2.1.1.2 t.2.2.1.2.1 t.2.2.1.2.2 t.2.2.2.1.1.1 t.2.2.2.1.1.2 t.2.2.2.1.2 t.2.2.2.2.1 t.2.2.2.2.2 := dk (α := Tq) (((((((aWorld 0, default), default), (((fun _ => default), (fun _ => default)), (fun _ => default))), (((default, default), default), (default, default))), ((((({} : Around), default), default), ((default, (fun _ => default)), ({} : Shared))), ((((fun _ _ => True), (fun _ _ => True)), default), (default, default)))), (((((default, default), default), ((default, default), default)), (((default, default), default), (default, default))), ((((default, default), default), (default, default)), (((default, default), default), (default, default)))))) _
noncomputable def cq : Tq := Classical.choose exq
@[irreducible] noncomputable def w : World := cq.1.1.1.1.1.1
@[irreducible] noncomputable def p : Program := cq.1.1.1.1.1.2
@[irreducible] noncomputable def loose : List Str := cq.1.1.1.1.2
@[irreducible] noncomputable def mean : ExcName → Option Value := cq.1.1.1.2.1.1
@[irreducible] noncomputable def mg : Str → Option Value := cq.1.1.1.2.1.2
@[irreducible] noncomputable def mb : Str → Option Value := cq.1.1.1.2.2
@[irreducible] noncomputable def dp : Nat := cq.1.1.2.1.1.1
@[irreducible] noncomputable def un : Nat := cq.1.1.2.1.1.2
@[irreducible] noncomputable def gd : Option (List Code) := cq.1.1.2.1.2
@[irreducible] noncomputable def fa : Addr := cq.1.1.2.2.1
@[irreducible] noncomputable def cd : Value := cq.1.1.2.2.2
@[irreducible] noncomputable def A₀ : Around := cq.1.2.1.1.1.1
@[irreducible] noncomputable def base : Heap := cq.1.2.1.1.1.2
@[irreducible] noncomputable def h₀ : Heap := cq.1.2.1.1.2
@[irreducible] noncomputable def L : Addr := cq.1.2.1.2.1.1
@[irreducible] noncomputable def m : Str → Option Value := cq.1.2.1.2.1.2
@[irreducible] noncomputable def s : Shared := cq.1.2.1.2.2
@[irreducible] noncomputable def Q : Flow → Shared → Prop := cq.1.2.2.1.1.1
@[irreducible] noncomputable def E : Value → Shared → Prop := cq.1.2.2.1.1.2
@[irreducible] noncomputable def o1 : Obj := cq.1.2.2.1.2
@[irreducible] noncomputable def o2 : Obj := cq.1.2.2.2.1
@[irreducible] noncomputable def o3 : Obj := cq.1.2.2.2.2
@[irreducible] noncomputable def o4 : Obj := cq.2.1.1.1.1.1
@[irreducible] noncomputable def o5 : Obj := cq.2.1.1.1.1.2
@[irreducible] noncomputable def x3 : Option Value := cq.2.1.1.1.2
@[irreducible] noncomputable def x4 : Option Value := cq.2.1.1.2.1.1
@[irreducible] noncomputable def x5 : Option Value := cq.2.1.1.2.1.2
@[irreducible] noncomputable def sg : Int := cq.2.1.1.2.2
@[irreducible] noncomputable def tb : Int := cq.2.1.2.1.1.1
@[irreducible] noncomputable def wd : Int := cq.2.1.2.1.1.2
@[irreducible] noncomputable def tn : Int := cq.2.1.2.1.2
@[irreducible] noncomputable def sd : Int := cq.2.1.2.2.1
@[irreducible] noncomputable def tsg : Tok := cq.2.1.2.2.2
@[irreducible] noncomputable def ttb : Tok := cq.2.2.1.1.1.1
@[irreducible] noncomputable def twd : Tok := cq.2.2.1.1.1.2
@[irreducible] noncomputable def ttn : Tok := cq.2.2.1.1.2
@[irreducible] noncomputable def tsd : Tok := cq.2.2.1.2.1
@[irreducible] noncomputable def pr : Addr := cq.2.2.1.2.2
@[irreducible] noncomputable def pv : List Value := cq.2.2.2.1.1.1
@[irreducible] noncomputable def ep : Nat := cq.2.2.2.1.1.2
@[irreducible] noncomputable def rw : Addr := cq.2.2.2.1.2
@[irreducible] noncomputable def rv : List Value := cq.2.2.2.2.1
@[irreducible] noncomputable def er : Nat := cq.2.2.2.2.2
theorem coreq : Pq w p loose mean mg mb dp un gd fa cd A₀ base h₀ L m s Q E o1 o2 o3 o4 o5 x3 x4 x5 sg tb wd tn sd tsg ttb twd ttn tsd pr pv ep rw rv er := by
  unfold Pq
  intro B F X T hC1 hC2 N hlt hd1 hu1 hE hQ d1 d2 d3 d4 d5 hs3 hs8 ht1 hts hw4 hw603 hU1 hU2 hpr hPv hrv hrw
  dsimp only [lawBody, lawEnv, lawO, stmtsOf, lawScope, scopeOf, List.tail]
  (((try dsimp only); walk1; (try ((with_reducible show wpAny _ _ (execs _ _) _ _ _); walk1)); (repeat' ((fail_if_success (with_reducible first | (show Pre _) | (show wpAny _ _ (execs _ _) _ _ _) | (show TurnOk _ _ _ _ _ _ _ _ _ _ _) | (show wpAny _ _ (exec (Stmt.While _ _ _ _) _) _ _ _) | (show wpAny _ _ (pyIter _) _ _ _) | (show wpAny _ _ (call (Value.ref _) _) _ _ _))); walk_at "TRY"))))
  (((try dsimp only); walk1; (try ((with_reducible show wpAny _ _ (execs _ _) _ _ _); walk1)); (repeat' ((fail_if_success (with_reducible first | (show Pre _) | (show wpAny _ _ (execs _ _) _ _ _) | (show TurnOk _ _ _ _ _ _ _ _ _ _ _) | (show wpAny _ _ (exec (Stmt.While _ _ _ _) _) _ _ _) | (show wpAny _ _ (pyIter _) _ _ _) | (show wpAny _ _ (call (Value.ref _) _) _ _ _))); walk_at "TRY"))))
  (try dsimp only); walk1; (try ((with_reducible show wpAny _ _ (execs _ _) _ _ _); walk1))
  ((k_here; k_dflt (refine' for_stmt ?_ ?hsq87; (case hsq87 => exact (fun _ => rfl)); k_whole)))
  walk_at "STEPS"
  (rename Fr _ _ _ _ => lF'); (rename News _ _ _ _ => lN')
  obtain ⟨kd, sy, mm, F0, N0, q1, q2, q3, q4⟩ : ∃ kd sy mm, Fr h₀ L _ (fun z => if z = Str.ofString "kinds" then some (Value.ref kd) else if z = Str.ofString "symmetries" then some (Value.ref sy) else mm z) ∧ News h₀ L _ ((sy, listOf ([] : List Value).toArray 0) :: (kd, listOf (([] : List KRec).map fun k => Value.ref k.tup).toArray 0) :: (rw, listOf rv.toArray er) :: (pr, listOf pv.toArray ep) :: (L + 1 + 1 + 1 + 1 + 1, o5) :: (L + 1 + 1 + 1 + 1, o4) :: (L + 1 + 1 + 1, o3) :: (L + 1 + 1, o2) :: (L + 1, o1) :: (44, tabObj #[]) :: (37, tabObj #[]) :: ledOf []) ∧ @LT.lt Nat _ sy kd ∧ @LT.lt Nat _ rw sy ∧ @LT.lt Nat _ pr sy ∧ mm = (fun z => if z = Str.ofString "rows" then some (.ref rw) else if z = Str.ofString "products" then some (.ref pr) else if z = Str.ofString "side" then some (.int sd tsd) else if z = Str.ofString "turn" then some (.int tn ttn) else if z = Str.ofString "width" then some (.int wd twd) else m z) :=
    ⟨_, _, _, lF', cb_drop lN' (by (((try dsimp only); (repeat (refine List.forall_mem_cons.mpr ⟨by k_mem, ?_⟩)); first | exact List.forall_mem_nil _ | walk_at "SUB"))), by omega, by omega, by omega, rfl⟩
  clear lF' lN'
  have en : (sg - tb).toNat = sg.toNat - tb.toNat := by omega
  have en1 : (sg - 1).toNat = sg.toNat - 1 := by omega
  rw [en, en1] at hrv
  have hall : (rowsAll sg.toNat tb.toNat).all (rowGood sg.toNat tb.toNat) = true := rows_good sg.toNat (by omega) (by omega) tb.toNat (by omega) (by omega)
  have hlr : (rowsAll sg.toNat tb.toNat).length ≤ 128 := Nat.le_trans (rowsN_len _ _ _) (show 2 ^ (sg.toNat - 1) ≤ 2 ^ 7 from Nat.pow_le_pow_right (by decide) (by omega))
  (k_dflt (refine' forT_list (σ := List Value × Nat × List KRec × Nat × Obj × Obj) (l := rw) (vs := rv) (k := er) (fun c => (sy, listOf (c.1).toArray c.2.1) :: (kd, listOf ((c.2.2.1).map fun k => Value.ref k.tup).toArray c.2.2.2.1) :: (rw, listOf rv.toArray er) :: (pr, listOf pv.toArray ep) :: (L + 1 + 1 + 1 + 1 + 1, o5) :: (L + 1 + 1 + 1 + 1, c.2.2.2.2.2) :: (L + 1 + 1 + 1, c.2.2.2.2.1) :: (L + 1 + 1, o2) :: (L + 1, o1) :: (44, tabObj #[]) :: (37, tabObj #[]) :: ledOf c.2.2.1) (fun _ => []) [Str.ofString "told", Str.ofString "symmetry", Str.ofString "counts", Str.ofString "behind", Str.ofString "blanks", Str.ofString "same"] (fun i c => IntsAre c.1 (rowsAt sg.toNat (rowsAll sg.toNat tb.toNat) i).1 ∧ KsAre w.params (rowsAt sg.toNat (rowsAll sg.toNat tb.toNat) i).2 c.2.2.1 ∧ (∀ p ∈ ledOf c.2.2.1, @LT.lt Nat _ kd p.1) ∧ (ledOf c.2.2.1).Pairwise (fun p q => p.1 ≠ q.1) ∧ (∃ x, c.2.2.2.2.1.data = .cell x) ∧ (∃ x, c.2.2.2.2.2.data = .cell x)) ([], 0, [], 0, o3, o4) hE rfl F0 N0 ?hl ?hk ?h0 ?turn ?done))
  case hl => exact fun c => by k_mem
  case hk => exact fun p hp => nomatch hp
  case h0 => exact ⟨.nil, .nil, (fun p hp => nomatch hp), List.Pairwise.nil, ⟨_, d3⟩, ⟨_, d4⟩⟩
  case turn =>
    rintro i v ⟨sv, e1, ks, e2, oR, oW⟩ u h tk I oI hi hv ⟨hV1, hV2, hV3, hV4, ⟨xR, hV5⟩, ⟨xW, hV6⟩⟩ hoff hIl F1 N1
    dsimp only at hV1 hV2 hV3 hV4 hV5 hV6 hoff F1 N1
    obtain ⟨r, tr, hr, rfl⟩ := hrv.at hv
    have hrm := List.mem_of_getElem? hr
    have hi2 : i < (rowsAll sg.toNat tb.toNat).length := (List.getElem?_eq_some_iff.mp hr).1
    obtain ⟨b1, b2, b3⟩ := rowsAt_len sg.toNat (rowsAll sg.toNat tb.toNat) i
    have F2 : Fr h₀ L h (fun z => if z = Str.ofString "symmetries" then some (.ref sy) else if z = Str.ofString "kinds" then some (.ref kd) else kstB (fun z => if ([Str.ofString "told", Str.ofString "symmetry", Str.ofString "counts", Str.ofString "behind", Str.ofString "blanks", Str.ofString "same"]).contains z then u z else if z = Str.ofString "kinds" then some (Value.ref kd) else if z = Str.ofString "symmetries" then some (Value.ref sy) else mm z) [] z) := frN (Str.ofString "symmetries") (.ref sy) (frN (Str.ofString "kinds") (.ref kd) F1 rfl) rfl
    (k_dflt (refine' row_turn (I := I) (oI := oI) (ks := ks) B F2 X T hC1 hC2 N1 hlt hd1 hu1 hpr ⟨q1, ?r1, ?r2, q2, q3, trivial⟩ hrw ?rI d1 d2 hV5 hV6 hs3 hs8 ht1 hts ?rok ?rgood hV1 hV2 ?l1 ?l3 ?l2 ?gt hV4 ?hend))
    case r1 => omega
    case r2 => omega
    case rI => exact hIl (kd, _) (.tail _ (.head _))
    case rok => (have z := rowsN_ok _ _ _ r hrm); rw [show sg.toNat - 1 + 1 = sg.toNat by omega] at z; exact z
    case rgood => exact List.all_eq_true.mp hall r hrm
    case l1 => (have z := hV2.length); omega
    case l2 => omega
    case l3 =>
      intro k hk
      obtain ⟨j, hj, ej⟩ := List.getElem_of_mem hk
      obtain ⟨pk, hp1, _, hp2⟩ := hV2.at (i := j) (k := k) (by rw [List.getElem?_eq_getElem hj, ej])
      have z := b3 pk (List.mem_of_getElem? hp1)
      rw [List.size_toArray, hp2.length, sizeLine_eq]
      omega
    case gt => exact fun p hp => ⟨hV3 p hp, hoff p (by (repeat (refine List.Mem.tail _ ?_)); exact hp)⟩
    case hend =>
      intro f sv' e1' ks' e2' oR' oW' h' tk' m' news' hf F8 N8 mI mL hgt' hpw' hR' hW' hm' hs' hk'
      have fin : TurnOk h₀ L { s with heap := h, toks := tk } I oI (fun c : List Value × Nat × List KRec × Nat × Obj × Obj => (sy, listOf (c.1).toArray c.2.1) :: (kd, listOf ((c.2.2.1).map fun k => Value.ref k.tup).toArray c.2.2.2.1) :: (rw, listOf rv.toArray er) :: (pr, listOf pv.toArray ep) :: (L + 1 + 1 + 1 + 1 + 1, o5) :: (L + 1 + 1 + 1 + 1, c.2.2.2.2.2) :: (L + 1 + 1 + 1, c.2.2.2.2.1) :: (L + 1 + 1, o2) :: (L + 1, o1) :: (44, tabObj #[]) :: (37, tabObj #[]) :: ledOf c.2.2.1) (fun _ => []) [Str.ofString "told", Str.ofString "symmetry", Str.ofString "counts", Str.ofString "behind", Str.ofString "blanks", Str.ofString "same"] (fun z => if z = Str.ofString "kinds" then some (Value.ref kd) else if z = Str.ofString "symmetries" then some (Value.ref sy) else mm z) (fun c => IntsAre c.1 (rowsAt sg.toNat (rowsAll sg.toNat tb.toNat) (i + 1)).1 ∧ KsAre w.params (rowsAt sg.toNat (rowsAll sg.toNat tb.toNat) (i + 1)).2 c.2.2.1 ∧ (∀ p ∈ ledOf c.2.2.1, @LT.lt Nat _ kd p.1) ∧ (ledOf c.2.2.1).Pairwise (fun p q => p.1 ≠ q.1) ∧ (∃ x, c.2.2.2.2.1.data = .cell x) ∧ (∃ x, c.2.2.2.2.2.data = .cell x)) { s with heap := h', toks := tk' } := by
        refine TurnOk.intro (sv', e1', ks', e2', oR', oW') F8 N8 mI mL ?_ (fun p hp => nomatch hp) ?_ ?_
        · intro p hp
          have hfix : ∀ q ∈ (sy, listOf (sv').toArray e1') :: (kd, listOf ((ks').map fun k => Value.ref k.tup).toArray e2') :: (rw, listOf rv.toArray er) :: (pr, listOf pv.toArray ep) :: (L + 1 + 1 + 1 + 1 + 1, o5) :: (L + 1 + 1 + 1 + 1, oW') :: (L + 1 + 1 + 1, oR') :: (L + 1 + 1, o2) :: (L + 1, o1) :: (44, tabObj #[]) :: (37, tabObj #[]) :: [], q.1 ≠ I := by
            have hI2 := hIl
            refine List.forall_mem_cons.mpr ⟨?_, List.forall_mem_cons.mpr ⟨?_, List.forall_mem_cons.mpr ⟨?_, List.forall_mem_cons.mpr ⟨?_, List.forall_mem_cons.mpr ⟨?_, List.forall_mem_cons.mpr ⟨?_, List.forall_mem_cons.mpr ⟨?_, List.forall_mem_cons.mpr ⟨?_, List.forall_mem_cons.mpr ⟨?_, List.forall_mem_cons.mpr ⟨?_, List.forall_mem_cons.mpr ⟨?_, List.forall_mem_nil _⟩⟩⟩⟩⟩⟩⟩⟩⟩⟩⟩
            · (have z := hI2 (sy, _) (.head _)); exact Nat.ne_of_lt z
            · (have z := hI2 (kd, _) (.tail _ (.head _))); exact Nat.ne_of_lt z
            · (have z := hI2 (rw, _) (.tail _ (.tail _ (.head _)))); exact Nat.ne_of_lt z
            · (have z := hI2 (pr, _) (.tail _ (.tail _ (.tail _ (.head _))))); exact Nat.ne_of_lt z
            · (have z := hI2 (L + 1 + 1 + 1 + 1 + 1, _) (.tail _ (.tail _ (.tail _ (.tail _ (.head _)))))); exact Nat.ne_of_lt z
            · (have z := hI2 (L + 1 + 1 + 1 + 1, _) (.tail _ (.tail _ (.tail _ (.tail _ (.tail _ (.head _))))))); exact Nat.ne_of_lt z
            · (have z := hI2 (L + 1 + 1 + 1, _) (.tail _ (.tail _ (.tail _ (.tail _ (.tail _ (.tail _ (.head _)))))))); exact Nat.ne_of_lt z
            · (have z := hI2 (L + 1 + 1, _) (.tail _ (.tail _ (.tail _ (.tail _ (.tail _ (.tail _ (.tail _ (.head _))))))))); exact Nat.ne_of_lt z
            · (have z := hI2 (L + 1, _) (.tail _ (.tail _ (.tail _ (.tail _ (.tail _ (.tail _ (.tail _ (.tail _ (.head _)))))))))); exact Nat.ne_of_lt z
            · (have z := hI2 (44, _) (.tail _ (.tail _ (.tail _ (.tail _ (.tail _ (.tail _ (.tail _ (.tail _ (.tail _ (.head _))))))))))); exact Nat.ne_of_lt z
            · (have z := hI2 (37, _) (.tail _ (.tail _ (.tail _ (.tail _ (.tail _ (.tail _ (.tail _ (.tail _ (.tail _ (.tail _ (.head _)))))))))))); exact Nat.ne_of_lt z
          rcases List.mem_append.mp (show p ∈ ((sy, listOf (sv').toArray e1') :: (kd, listOf ((ks').map fun k => Value.ref k.tup).toArray e2') :: (rw, listOf rv.toArray er) :: (pr, listOf pv.toArray ep) :: (L + 1 + 1 + 1 + 1 + 1, o5) :: (L + 1 + 1 + 1 + 1, oW') :: (L + 1 + 1 + 1, oR') :: (L + 1 + 1, o2) :: (L + 1, o1) :: (44, tabObj #[]) :: (37, tabObj #[]) :: []) ++ ledOf ks' from hp) with hp | hp
          · exact hfix p hp
          · exact (hgt' p hp).2
        · intro z _ h3
          rw [hm' z h3]
          have q9 : Str.ofString "symmetries" ≠ Str.ofString "kinds" := by decide
          have q8 : Str.ofString "kinds" ≠ Str.ofString "symmetries" := by decide
          by_cases hz1 : z = Str.ofString "symmetries"
          · rw [hz1]; simp [q9]
          · by_cases hz2 : z = Str.ofString "kinds"
            · rw [hz2]; simp [q8]
            · dsimp only [kstB]
              rw [if_neg hz1, if_neg hz2, if_neg hz2, if_neg hz1, h3]
              simp [hz1, hz2]
        · rw [rowsAt_succ sg.toNat (rowsAll sg.toNat tb.toNat) hr]
          exact ⟨hs', hk', fun p hp => (hgt' p hp).1, hpw', hR', hW'⟩
      rcases hf with rfl | rfl
      · exact fin
      · exact fin
  case done =>
    rintro ⟨sv, e1, ks, e2, oR, oW⟩ u h tk ⟨hV1, hV2, hV3, hV4, ⟨xR, hV5⟩, ⟨xW, hV6⟩⟩ F2 N2
    dsimp only at hV1 hV2 hV3 hV4 hV5 hV6 F2 N2
    subst q4
    replace F2 : Fr h₀ L h _ := F2
    have F3 := frN (Str.ofString "kinds") (.ref kd) (frN (Str.ofString "symmetries") (.ref sy) (frN (Str.ofString "products") (.ref pr) (frN (Str.ofString "side") (.int sd tsd) (frN (Str.ofString "turn") (.int tn ttn) (frN (Str.ofString "width") (.int wd twd) F2 rfl) rfl) rfl) rfl) rfl) rfl
    rw [hrv.length] at hV1 hV2
    (k_dflt (refine' law_mid4 B F3 X T hC1 hC2 (cb_drop N2 ?sub) hlt hd1 hu1 hE ?hQ d1 d2 hV5 hV6 d5 hs3 hs8 ht1 hts hw4 hw603 hU1 hU2 hpr hPv ⟨q3, q1⟩ rfl hV1 hV2 hV3))
    (case sub => (((try dsimp only); (repeat (refine List.forall_mem_cons.mpr ⟨by k_mem, ?_⟩)); first | exact List.forall_mem_nil _ | walk_at "SUB")))
    (case hQ => (intro h' tk' m' n' F' N' G'; exact hQ h' tk' m' n' F' N' G'))
theorem allq (w : World) (p : Program) (loose : List Str) (mean : ExcName → Option Value) (mg : Str → Option Value) (mb : Str → Option Value) (dp : Nat) (un : Nat) (gd : Option (List Code)) (fa : Addr) (cd : Value) (A₀ : Around) (base : Heap) (h₀ : Heap) (L : Addr) (m : Str → Option Value) (s : Shared) (Q : Flow → Shared → Prop) (E : Value → Shared → Prop) (o1 : Obj) (o2 : Obj) (o3 : Obj) (o4 : Obj) (o5 : Obj) (x3 : Option Value) (x4 : Option Value) (x5 : Option Value) (sg : Int) (tb : Int) (wd : Int) (tn : Int) (sd : Int) (tsg : Tok) (ttb : Tok) (twd : Tok) (ttn : Tok) (tsd : Tok) (pr : Addr) (pv : List Value) (ep : Nat) (rw : Addr) (rv : List Value) (er : Nat) : Pq w p loose mean mg mb dp un gd fa cd A₀ base h₀ L m s Q E o1 o2 o3 o4 o5 x3 x4 x5 sg tb wd tn sd tsg ttb twd ttn tsd pr pv ep rw rv er := by
  with_unfolding_all exact Classical.choose_spec exq coreq ((((((w, p), loose), ((mean, mg), mb)), (((dp, un), gd), (fa, cd))), ((((A₀, base), h₀), ((L, m), s)), (((Q, E), o1), (o2, o3)))), (((((o4, o5), x3), ((x4, x5), sg)), (((tb, wd), tn), (sd, tsg))), ((((ttb, twd), ttn), (tsd, pr)), (((pv, ep), rw), (rv, er)))))
end Clawmid3
section
variable {w : World} {p : Program} {loose : List Str} {mean : ExcName → Option Value} {mg mb : Str → Option Value}
theorem law_mid3 {dp un : Nat} {gd : Option (List Code)} {fa : Addr} {cd : Value} {A₀ : Around} {base h₀ : Heap} {L : Addr} {m : Str → Option Value} {s : Shared} {Q : Flow → Shared → Prop} {E : Value → Shared → Prop} {o1 o2 o3 o4 o5 : Obj} {x3 x4 x5 : Option Value} {sg tb wd tn sd : Int} {tsg ttb twd ttn tsd : Tok} {pr : Addr} {pv : List Value} {ep : Nat} {rw : Addr} {rv : List Value} {er : Nat}
    (B : Below A₀ base [] h₀) (F : Fr h₀ L s.heap (fun z => if z = Str.ofString "rows" then some (.ref rw) else if z = Str.ofString "products" then some (.ref pr) else if z = Str.ofString "side" then some (.int sd tsd) else if z = Str.ofString "turn" then some (.int tn ttn) else if z = Str.ofString "width" then some (.int wd twd) else m z)) (X : (hd.heap_39 w.params).In h₀) (T : Top p loose mean mg mb h₀) (hC1 : CodeHd h₀ 41 37) (hC2 : CodeHd h₀ 48 44)
    (N : News h₀ L s.heap ((rw, listOf rv.toArray er) :: (pr, listOf pv.toArray ep) :: (L + 1 + 1 + 1 + 1 + 1, o5) :: (L + 1 + 1 + 1 + 1, o4) :: (L + 1 + 1 + 1, o3) :: (L + 1 + 1, o2) :: (L + 1, o1) :: (44, tabObj #[]) :: (37, tabObj #[]) :: []))
    (hlt : @LT.lt Nat _ 44 L ∧ @LT.lt Nat _ 37 L) (hd1 : dp + 40 < recursionLimit) (hu1 : un + 600 < cLine)
    (hE : PassesOwn (model PySem.Challenge.pw_sr0065_01 w) (ktrTop dp un gd (Str.ofString "law") (lawScope w.params) L fa cd (cellsFrom (L + 1) (lawScope w.params).names []) []) (lawEnv w.params L fa cd) E)
    (hQ : ∀ h' tk' m' news', Fr h₀ L h' m' → News h₀ L h' news' → GrownAll [(48, 44), (41, 37)] h' → Q (.ret (.bool true)) { s with heap := h', toks := tk' })
    (d1 : o1.data = .cell (some (.int sg tsg))) (d2 : o2.data = .cell (some (.int tb ttb))) (d3 : o3.data = .cell x3) (d4 : o4.data = .cell x4) (d5 : o5.data = .cell x5) (hs3 : 3 ≤ sg) (hs8 : sg ≤ 8) (ht1 : 1 ≤ tb) (hts : tb ≤ sg) (hw4 : 4 ≤ wd) (hw603 : wd ≤ 603) (hU1 : Unit1 tn) (hU2 : Unit1 sd) (hpr : @LT.lt Nat _ (L + 1 + 1 + 1 + 1 + 1) pr) (hPv : IntsAre pv (prds wd.toNat (sg.toNat + 1))) (hrv : TextsAre rv (rowsN (sg - tb).toNat tb.toNat (sg - 1).toNat)) (hrw : @Ne Nat rw (L + 1 + 1 + 1) ∧ @Ne Nat rw (L + 1 + 1 + 1 + 1)) :
    wpAny (model PySem.Challenge.pw_sr0065_01 w) (ktrTop dp un gd (Str.ofString "law") (lawScope w.params) L fa cd (cellsFrom (L + 1) (lawScope w.params).names []) []) (execs (lawBody w.params).tail.tail.tail.tail.tail.tail.tail.tail.tail (lawEnv w.params L fa cd)) Q E s :=
  Clawmid3.allq w p loose mean mg mb dp un gd fa cd A₀ base h₀ L m s Q E o1 o2 o3 o4 o5 x3 x4 x5 sg tb wd tn sd tsg ttb twd ttn tsd pr pv ep rw rv er B F X T hC1 hC2 N hlt hd1 hu1 hE hQ d1 d2 d3 d4 d5 hs3 hs8 ht1 hts hw4 hw603 hU1 hU2 hpr hPv hrv hrw
end
end
-- LR
theorem fresh_LR : True := by
  w_top off
  exact trivial
section
section
variable {w : World} {p : Program} {loose : List Str} {mean : ExcName → Option Value} {mg mb : Str → Option Value}
end
namespace Clawmid2
noncomputable def Pq (w : World) (p : Program) (loose : List Str) (mean : ExcName → Option Value) (mg : Str → Option Value) (mb : Str → Option Value) (dp : Nat) (un : Nat) (gd : Option (List Code)) (fa : Addr) (cd : Value) (A₀ : Around) (base : Heap) (h₀ : Heap) (L : Addr) (m : Str → Option Value) (s : Shared) (Q : Flow → Shared → Prop) (E : Value → Shared → Prop) (o1 : Obj) (o2 : Obj) (o3 : Obj) (o4 : Obj) (o5 : Obj) (x3 : Option Value) (x4 : Option Value) (x5 : Option Value) (sg : Int) (tb : Int) (wd : Int) (tn : Int) (sd : Int) (tsg : Tok) (ttb : Tok) (twd : Tok) (ttn : Tok) (tsd : Tok) (pr : Addr) (pv : List Value) (ep : Nat) : Prop := ∀ (B : Below A₀ base [] h₀) (F : Fr h₀ L s.heap (fun z => if z = Str.ofString "products" then some (.ref pr) else if z = Str.ofString "side" then some (.int sd tsd) else if z = Str.ofString "turn" then some (.int tn ttn) else if z = Str.ofString "width" then some (.int wd twd) else m z)) (X : (hd.heap_39 w.params).In h₀) (T : Top p loose mean mg mb h₀) (hC1 : CodeHd h₀ 41 37) (hC2 : CodeHd h₀ 48 44) (N : News h₀ L s.heap ((pr, listOf pv.toArray ep) :: (L + 1 + 1 + 1 + 1 + 1, o5) :: (L + 1 + 1 + 1 + 1, o4) :: (L + 1 + 1 + 1, o3) :: (L + 1 + 1, o2) :: (L + 1, o1) :: (44, tabObj #[]) :: (37, tabObj #[]) :: [])) (hlt : @LT.lt Nat _ 44 L ∧ @LT.lt Nat _ 37 L) (hd1 : dp + 40 < recursionLimit) (hu1 : un + 600 < cLine) (hE : PassesOwn (model PySem.Challenge.pw_sr0065_01 w) (ktrTop dp un gd (Str.ofString "law") (lawScope w.params) L fa cd (cellsFrom (L + 1) (lawScope w.params).names []) []) (lawEnv w.params L fa cd) E) (hQ : ∀ h' tk' m' news', Fr h₀ L h' m' → News h₀ L h' news' → GrownAll [(48, 44), (41, 37)] h' → Q (.ret (.bool true)) { s with heap := h', toks := tk' }) (d1 : o1.data = .cell (some (.int sg tsg))) (d2 : o2.data = .cell (some (.int tb ttb))) (d3 : o3.data = .cell x3) (d4 : o4.data = .cell x4) (d5 : o5.data = .cell x5) (hs3 : 3 ≤ sg) (hs8 : sg ≤ 8) (ht1 : 1 ≤ tb) (hts : tb ≤ sg) (hw4 : 4 ≤ wd) (hw603 : wd ≤ 603) (hU1 : Unit1 tn) (hU2 : Unit1 sd) (hpr : @LT.lt Nat _ (L + 1 + 1 + 1 + 1 + 1) pr) (hPv : IntsAre pv (prds wd.toNat (sg.toNat + 1))),
    wpAny (model PySem.Challenge.pw_sr0065_01 w) (ktrTop dp un gd (Str.ofString "law") (lawScope w.params) L fa cd (cellsFrom (L + 1) (lawScope w.params).names []) []) (execs (lawBody w.params).tail.tail.tail.tail.tail.tail.tail (lawEnv w.params L fa cd)) Q E s
noncomputable abbrev Tq : Type := ((((((World × Program) × (List Str)) × ((ExcName → Option Value) × (Str → Option Value))) × ((((Str → Option Value) × Nat) × Nat) × ((Option (List Code)) × Addr))) × ((((Value × Around) × Heap) × (Heap × Addr)) × ((((Str → Option Value) × Shared) × (Flow → Shared → Prop)) × ((Value → Shared → Prop) × Obj)))) × (((((Obj × Obj) × Obj) × (Obj × (Option Value))) × ((((Option Value) × (Option Value)) × Int) × (Int × Int))) × ((((Int × Int) × Tok) × (Tok × Tok)) × (((Tok × Tok) × Addr) × ((List Value) × Nat)))))
theorem exq : ∃ t : Tq, Pq t.1.1.1.1.1.1 t.1.1.1.1.1.2 t.1.1.1.1.2 t.1.1.1.2.1 t.1.1.1.2.2 t.1.1.2.1.1.1 t.1.1.2.1.1.2 t.1.1.2.1.2 t.1.1.2.2.1 t.1.1.2.2.2 t.1.2.1.1.1.1 t.1.2.1.1.1.2 t.1.2.1.1.2 t.1.2.1.2.1 t.1.2.1.2.2 t.1.2.2.1.1.1 t.1.2.2.1.1.2 t.1.2.2.1.2 t.1.2.2.2.1 t.1.2.2.2.2 t.2.1.1.1.1.1 t.2.1.1.1.1.2 t.2.1.1.1.2 t.2.1.1.2.1 t.2.1.1.2.2 t.2.1.2.1.1.1 t.2.1.2.1.1.2 t.2.1.2.1.2 t.2.1.2.2.1 t.2.1.2.2.2 t.2.2.1.1.1.1 t.2.2.1.1.1.2 t.2.2.1.1.2 t.2.2.1.2.1 t.2.2.1.2.2 t.2.2.2.1.1.1 t.2.2.2.1.1.2 t.2.2.2.1.2 t.2.2.2.2.1 t.2.2.2.2.2 → ∀ t : Tq, Pq t.1.1.1.1.1.1 t.1.1.1.1.1.2 t.1.1.1.1.2 t.1.1.1.2.1 t.1.1.1.2.2 t.1.1.2.1.1.1 t.1.1.2.1.1.2 t.1.1.2.1.2 t.1.1.2.2.1 t.1.1.2.2.2 t.1.2.1.1.1.1 t.1.2.1.1.1.2 t.1.2.1.1.2 t.1.2.1.2.1 t.1.2.1.2.2 t.1.2.2.1.1.1 t.1.2.2.1.1.2 t.1.2.2.1.2 t.1.2.2.2.1 t.1.2.2.2.2 t.2.1.1.1.1.1 t.2.1.1.1.1.2 t.2.1.1.1.2 t.2.1.1.2.1 t.2.1.1.2.2 t.2.1.2.1.1.1 t.2.1.2.1.1.2 t.2.1.2.1.2 t.2.1.2.2.1 t.2.1.2.2.2 t.2.2.1.1.1.1 t.2.2.1.1.1.2 t.2.2.1.1.2 t.2.2.1.2.1 t.2.2.1.2.2 t.2.2.2.1.1.1 t.2.2.2.1.1.2 t.2.2.2.1.2 t.2.2.2.2.1 t.2.2.2.2.2 := dk (α := Tq) (((((((aWorld 0, default), default), ((fun _ => default), (fun _ => default))), ((((fun _ => default), default), default), (default, default))), ((((default, ({} : Around)), default), (default, default)), ((((fun _ => default), ({} : Shared)), (fun _ _ => True)), ((fun _ _ => True), default)))), (((((default, default), default), (default, default)), (((default, default), default), (default, default))), ((((default, default), default), (default, default)), (((default, default), default), (default, default)))))) _
noncomputable def cq : Tq := Classical.choose exq
@[irreducible] noncomputable def w : World := cq.1.1.1.1.1.1
@[irreducible] noncomputable def p : Program := cq.1.1.1.1.1.2
@[irreducible] noncomputable def loose : List Str := cq.1.1.1.1.2
@[irreducible] noncomputable def mean : ExcName → Option Value := cq.1.1.1.2.1
@[irreducible] noncomputable def mg : Str → Option Value := cq.1.1.1.2.2
@[irreducible] noncomputable def mb : Str → Option Value := cq.1.1.2.1.1.1
@[irreducible] noncomputable def dp : Nat := cq.1.1.2.1.1.2
@[irreducible] noncomputable def un : Nat := cq.1.1.2.1.2
@[irreducible] noncomputable def gd : Option (List Code) := cq.1.1.2.2.1
@[irreducible] noncomputable def fa : Addr := cq.1.1.2.2.2
@[irreducible] noncomputable def cd : Value := cq.1.2.1.1.1.1
@[irreducible] noncomputable def A₀ : Around := cq.1.2.1.1.1.2
@[irreducible] noncomputable def base : Heap := cq.1.2.1.1.2
@[irreducible] noncomputable def h₀ : Heap := cq.1.2.1.2.1
@[irreducible] noncomputable def L : Addr := cq.1.2.1.2.2
@[irreducible] noncomputable def m : Str → Option Value := cq.1.2.2.1.1.1
@[irreducible] noncomputable def s : Shared := cq.1.2.2.1.1.2
@[irreducible] noncomputable def Q : Flow → Shared → Prop := cq.1.2.2.1.2
@[irreducible] noncomputable def E : Value → Shared → Prop := cq.1.2.2.2.1
@[irreducible] noncomputable def o1 : Obj := cq.1.2.2.2.2
@[irreducible] noncomputable def o2 : Obj := cq.2.1.1.1.1.1
@[irreducible] noncomputable def o3 : Obj := cq.2.1.1.1.1.2
@[irreducible] noncomputable def o4 : Obj := cq.2.1.1.1.2
@[irreducible] noncomputable def o5 : Obj := cq.2.1.1.2.1
@[irreducible] noncomputable def x3 : Option Value := cq.2.1.1.2.2
@[irreducible] noncomputable def x4 : Option Value := cq.2.1.2.1.1.1
@[irreducible] noncomputable def x5 : Option Value := cq.2.1.2.1.1.2
@[irreducible] noncomputable def sg : Int := cq.2.1.2.1.2
@[irreducible] noncomputable def tb : Int := cq.2.1.2.2.1
@[irreducible] noncomputable def wd : Int := cq.2.1.2.2.2
@[irreducible] noncomputable def tn : Int := cq.2.2.1.1.1.1
@[irreducible] noncomputable def sd : Int := cq.2.2.1.1.1.2
@[irreducible] noncomputable def tsg : Tok := cq.2.2.1.1.2
@[irreducible] noncomputable def ttb : Tok := cq.2.2.1.2.1
@[irreducible] noncomputable def twd : Tok := cq.2.2.1.2.2
@[irreducible] noncomputable def ttn : Tok := cq.2.2.2.1.1.1
@[irreducible] noncomputable def tsd : Tok := cq.2.2.2.1.1.2
@[irreducible] noncomputable def pr : Addr := cq.2.2.2.1.2
@[irreducible] noncomputable def pv : List Value := cq.2.2.2.2.1
@[irreducible] noncomputable def ep : Nat := cq.2.2.2.2.2
theorem coreq : Pq w p loose mean mg mb dp un gd fa cd A₀ base h₀ L m s Q E o1 o2 o3 o4 o5 x3 x4 x5 sg tb wd tn sd tsg ttb twd ttn tsd pr pv ep := by
  unfold Pq
  intro B F X T hC1 hC2 N hlt hd1 hu1 hE hQ d1 d2 d3 d4 d5 hs3 hs8 ht1 hts hw4 hw603 hU1 hU2 hpr hPv
  dsimp only [lawBody, lawEnv, lawO, stmtsOf, lawScope, scopeOf, List.tail]
  (((try dsimp only); walk1; (try ((with_reducible show wpAny _ _ (execs _ _) _ _ _); walk1)); (repeat' ((fail_if_success (with_reducible first | (show Pre _) | (show wpAny _ _ (execs _ _) _ _ _) | (show TurnOk _ _ _ _ _ _ _ _ _ _ _) | (show wpAny _ _ (exec (Stmt.While _ _ _ _) _) _ _ _) | (show wpAny _ _ (pyIter _) _ _ _) | (show wpAny _ _ (call (Value.ref _) _) _ _ _))); walk_at "TRY"))))
  (((try dsimp only); walk1; (try ((with_reducible show wpAny _ _ (execs _ _) _ _ _); walk1)); (repeat' ((fail_if_success (with_reducible first | (show Pre _) | (show wpAny _ _ (execs _ _) _ _ _) | (show TurnOk _ _ _ _ _ _ _ _ _ _ _) | (show wpAny _ _ (exec (Stmt.While _ _ _ _) _) _ _ _) | (show wpAny _ _ (pyIter _) _ _ _) | (show wpAny _ _ (call (Value.ref _) _) _ _ _))); walk_at "TRY"))))
  (rename IsRange _ _ _ _ _ _ _ _ => rg); (rename Fr _ _ _ _ => lF'); (rename News _ _ _ _ => lN')
  (with_unfolding_all refine' iter_range (σ := Addr × List Value × Nat) (n := (sg - 1).toNat) (fun c => (c.1, listOf c.2.1.toArray c.2.2) :: (pr, listOf pv.toArray ep) :: (L + 1 + 1 + 1 + 1 + 1, o5) :: (L + 1 + 1 + 1 + 1, o4) :: (L + 1 + 1 + 1, o3) :: (L + 1 + 1, o2) :: (L + 1, o1) :: (44, tabObj #[]) :: (37, tabObj #[]) :: []) (fun c => [(Str.ofString "rows", .ref c.1)]) [Str.ofString "place"] (fun i c => TextsAre c.2.1 (rowsN (sg - tb).toNat tb.toNat i) ∧ @Ne Nat c.1 (L + 1 + 1 + 1) ∧ @Ne Nat c.1 (L + 1 + 1 + 1 + 1)) (_, [.str (Str.ofString "\t") _], 0) (by rfl) rg ?small ?size lF' lN' ?hk ?h0 ?turn ?done)
  case small => exact small_one (by decide) (by decide) (by omega) (by omega)
  case size => exact rangeSize1 _ _
  case hk => (with_unfolding_all kst_all)
  case h0 => exact ⟨tab_texts _, Nat.ne_of_gt (show @LT.lt Nat _ _ _ from by omega), Nat.ne_of_gt (show @LT.lt Nat _ _ _ from by omega)⟩
  case turn =>
    rintro i v ⟨rw, vs, ek⟩ u h tk I oI hi ⟨t, rfl⟩ ⟨hV, _⟩ hoff F1 N1
    clear lF' lN'
    dsimp only at hV hoff F1 N1
    have hne1 := neN (List.forall_mem_cons.mp hoff).1
    have hne2 := (List.forall_mem_cons.mp hoff).2
    (try k_fold)
    walk_at "STEPS"
    (rename News _ _ _ _ => nN); (rename Fr _ _ _ _ => nF)
    (with_unfolding_all refine' lc2_list (σ := List Value) (vs := vs) (k := ek) id (fun _ => (I, oI) :: (rw, listOf vs.toArray ek) :: (pr, listOf pv.toArray ep) :: (L + 1 + 1 + 1 + 1 + 1, o5) :: (L + 1 + 1 + 1 + 1, o4) :: (L + 1 + 1 + 1, o3) :: (L + 1 + 1, o2) :: (L + 1, o1) :: (44, tabObj #[]) :: (37, tabObj #[]) :: []) (fun j zs => TextsAre zs (rowsStep (sg - tb).toNat tb.toNat ((rowsN (sg - tb).toNat tb.toNat i).take j))) [] (fun _ _ => rfl) rfl (by decide) rfl rfl nF nN ?hl rfl ?h0c ?turnC ?doneC)
    case hl => exact fun c => by k_mem
    case h0c => exact .nil
    case turnC =>
      rintro j v zs h tk I' C D oI' oC mC E' hj hv hz hC hx F2 N2 off ne
      obtain ⟨r, tr, hr, rfl⟩ := hV.at hv
      clear nN nF
      unfold Outer
      walk_at "STEPS"
      (rename News _ _ _ _ => nN); (rename Fr _ _ _ _ => nF)
      (k_dflt (refine' inner_two (C := C) (fun q => TextsAre q (rowsStep (sg - tb).toNat tb.toNat ((rowsN (sg - tb).toNat tb.toNat i).take j) ++ (if r.count 32 < (sg - tb).toNat then [r ++ [32]] else []))) (fun q => TextsAre q (rowsStep (sg - tb).toNat tb.toNat ((rowsN (sg - tb).toNat tb.toNat i).take (j + 1)))) (Str.ofString "row") (.str (toS r) tr) (by decide) (by decide) hx rfl rfl rfl (by decide) rfl rfl nF hC nN ?offD ne ?turn1 ?turn2 ?doneD))
      case offD => (((refine And.intro ⟨Nat.ne_of_gt (show @LT.lt Nat _ _ _ from by omega), Nat.ne_of_gt (show @LT.lt Nat _ _ _ from by omega), Nat.ne_of_gt (show @LT.lt Nat _ _ _ from by omega)⟩ ?_)); ((refine And.intro ⟨Nat.ne_of_gt (show @LT.lt Nat _ _ _ from by omega), Nat.ne_of_gt (show @LT.lt Nat _ _ _ from by omega), Nat.ne_of_gt (show @LT.lt Nat _ _ _ from by omega)⟩ ?_)); ((refine And.intro ⟨Nat.ne_of_gt (show @LT.lt Nat _ _ _ from by omega), Nat.ne_of_gt (show @LT.lt Nat _ _ _ from by omega), Nat.ne_of_gt (show @LT.lt Nat _ _ _ from by omega)⟩ ?_)); exact off)
      case turn1 =>
        rintro h tk I2 oI2 oC mC E' hC hk ha hb F3 N3 off3 ne3
        clear nN nF
        rw [show Str.ofString " " = toS [32] by decide +kernel] at ha
        refine Emit.mono (fun s' h => CEnd.mono h fun q hq => ?_) (row_emit (R := _) (bs := rowsStep (sg - tb).toNat tb.toNat ((rowsN (sg - tb).toNat tb.toNat i).take j)) B F3 X T hC1 hC2 N3 hd1 hu1 hC hk off3 ne3 hk ha hb hz ?lenA ?lenB)
        case lenA => (have l1 := rowsN_take_len (sg - tb).toNat tb.toNat (show i ≤ 7 by omega) j); (have l2 := TextsAre.length hz); rw [sizeLine_eq]; (show zs.length ≤ _); omega
        case lenB => (have l1 := (rowsN_ok _ _ i r (List.mem_of_getElem? hr)).1); omega
        rw [ite_cnt] at hq
        exact hq
      case turn2 =>
        rintro zs2 h tk I2 oI2 oC mC E' hz2 hC hk ha hb F3 N3 off3 ne3
        clear nN nF
        rw [show Str.ofString "\t" = toS [9] by decide +kernel] at ha
        refine Emit.mono (fun s' h => CEnd.mono h fun q hq => ?_) (row_emit (R := _) B F3 X T hC1 hC2 N3 hd1 hu1 hC hk off3 ne3 hk ha hb hz2 ?lenA ?lenB)
        case lenA =>
          (have l1 := rowsN_take_len (sg - tb).toNat tb.toNat (show i ≤ 7 by omega) j); (have l2 := TextsAre.length hz2); rw [sizeLine_eq]
          rw [List.length_append] at l2
          (have : (if r.count 32 < (sg - tb).toNat then [r ++ [32]] else []).length ≤ 1 := by split <;> simp); (show zs2.length ≤ _); omega
        case lenB => (have l1 := (rowsN_ok _ _ i r (List.mem_of_getElem? hr)).1); omega
        rw [ite_cnt] at hq
        rw [rowsStep_snoc _ _ hr]
        exact hq
      case doneD =>
        rintro zs2 h tk oC mC hz2 hC F3 N3
        exact CEnd.intro zs2 F3 hC trivial N3 (fun p hp => hp) off hz2
    case doneC =>
      (k_dflt (refine' rr_assign ?e1 ?e2 ?e3 ?_; (case e1 => rfl); (case e2 => rfl); (case e3 => rfl)))
      rintro D zs h tk hz F4 N4 oD1
      clear nN nF
      rw [hV.length, List.take_length] at hz
      simp only [LCg.Off1, and_true] at oD1
      (try dsimp only)
      (try k_fold)
      walk_at "STEPS"
      refine TurnOk.intro (D, zs, zs.length) (by assumption) N4 (by k_mem) (by (((try dsimp only); (repeat (refine List.forall_mem_cons.mpr ⟨by k_mem, ?_⟩)); first | exact List.forall_mem_nil _ | walk_at "SUB"))) (List.forall_mem_cons.mpr ⟨oD1.1.symm, hne2⟩) (by with_unfolding_all kst_all) (by ((intro zq98 h2q98 h3q98; (try simp only [List.forall_mem_cons, List.not_mem_nil, false_implies, implies_true, and_true, ne_eq] at h2q98); (simp only [List.contains_cons, List.contains_nil, Bool.or_false, Bool.or_eq_false_iff, beq_eq_false_iff_ne, ne_eq] at h3q98); first | (simp [h2q98, h3q98, kstB]; done) | (simp [h3q98, kstB]; done) | simp_all [kstB]))) ⟨hz, (oD1.2.2.2.2.2.1).symm, (oD1.2.2.2.2.1).symm⟩
  case done =>
    rintro ⟨rw, vs, ek⟩ u h tk ⟨hV, hrw⟩ F2 N2
    clear lF' lN'
    dsimp only at hV hrw F2 N2
    replace F2 : Fr h₀ L h _ := F2
    have F3 := frN (Str.ofString "rows") (.ref rw) (frN (Str.ofString "products") (.ref pr) (frN (Str.ofString "side") (.int sd tsd) (frN (Str.ofString "turn") (.int tn ttn) (frN (Str.ofString "width") (.int wd twd) F2 rfl) rfl) rfl) rfl) rfl
    (k_dflt (refine' law_mid3 B F3 X T hC1 hC2 N2 hlt hd1 hu1 hE ?hQ d1 d2 d3 d4 d5 hs3 hs8 ht1 hts hw4 hw603 hU1 hU2 hpr hPv hV hrw))
    (case hQ => (intro h' tk' m' n' F' N' G'; exact hQ h' tk' m' n' F' N' G'))
theorem allq (w : World) (p : Program) (loose : List Str) (mean : ExcName → Option Value) (mg : Str → Option Value) (mb : Str → Option Value) (dp : Nat) (un : Nat) (gd : Option (List Code)) (fa : Addr) (cd : Value) (A₀ : Around) (base : Heap) (h₀ : Heap) (L : Addr) (m : Str → Option Value) (s : Shared) (Q : Flow → Shared → Prop) (E : Value → Shared → Prop) (o1 : Obj) (o2 : Obj) (o3 : Obj) (o4 : Obj) (o5 : Obj) (x3 : Option Value) (x4 : Option Value) (x5 : Option Value) (sg : Int) (tb : Int) (wd : Int) (tn : Int) (sd : Int) (tsg : Tok) (ttb : Tok) (twd : Tok) (ttn : Tok) (tsd : Tok) (pr : Addr) (pv : List Value) (ep : Nat) : Pq w p loose mean mg mb dp un gd fa cd A₀ base h₀ L m s Q E o1 o2 o3 o4 o5 x3 x4 x5 sg tb wd tn sd tsg ttb twd ttn tsd pr pv ep := by
  with_unfolding_all exact Classical.choose_spec exq coreq ((((((w, p), loose), (mean, mg)), (((mb, dp), un), (gd, fa))), ((((cd, A₀), base), (h₀, L)), (((m, s), Q), (E, o1)))), (((((o2, o3), o4), (o5, x3)), (((x4, x5), sg), (tb, wd))), ((((tn, sd), tsg), (ttb, twd)), (((ttn, tsd), pr), (pv, ep)))))
end Clawmid2
section
variable {w : World} {p : Program} {loose : List Str} {mean : ExcName → Option Value} {mg mb : Str → Option Value}
theorem law_mid2 {dp un : Nat} {gd : Option (List Code)} {fa : Addr} {cd : Value} {A₀ : Around} {base h₀ : Heap} {L : Addr} {m : Str → Option Value} {s : Shared} {Q : Flow → Shared → Prop} {E : Value → Shared → Prop} {o1 o2 o3 o4 o5 : Obj} {x3 x4 x5 : Option Value} {sg tb wd tn sd : Int} {tsg ttb twd ttn tsd : Tok} {pr : Addr} {pv : List Value} {ep : Nat}
    (B : Below A₀ base [] h₀) (F : Fr h₀ L s.heap (fun z => if z = Str.ofString "products" then some (.ref pr) else if z = Str.ofString "side" then some (.int sd tsd) else if z = Str.ofString "turn" then some (.int tn ttn) else if z = Str.ofString "width" then some (.int wd twd) else m z)) (X : (hd.heap_39 w.params).In h₀) (T : Top p loose mean mg mb h₀) (hC1 : CodeHd h₀ 41 37) (hC2 : CodeHd h₀ 48 44)
    (N : News h₀ L s.heap ((pr, listOf pv.toArray ep) :: (L + 1 + 1 + 1 + 1 + 1, o5) :: (L + 1 + 1 + 1 + 1, o4) :: (L + 1 + 1 + 1, o3) :: (L + 1 + 1, o2) :: (L + 1, o1) :: (44, tabObj #[]) :: (37, tabObj #[]) :: []))
    (hlt : @LT.lt Nat _ 44 L ∧ @LT.lt Nat _ 37 L) (hd1 : dp + 40 < recursionLimit) (hu1 : un + 600 < cLine)
    (hE : PassesOwn (model PySem.Challenge.pw_sr0065_01 w) (ktrTop dp un gd (Str.ofString "law") (lawScope w.params) L fa cd (cellsFrom (L + 1) (lawScope w.params).names []) []) (lawEnv w.params L fa cd) E)
    (hQ : ∀ h' tk' m' news', Fr h₀ L h' m' → News h₀ L h' news' → GrownAll [(48, 44), (41, 37)] h' → Q (.ret (.bool true)) { s with heap := h', toks := tk' })
    (d1 : o1.data = .cell (some (.int sg tsg))) (d2 : o2.data = .cell (some (.int tb ttb))) (d3 : o3.data = .cell x3) (d4 : o4.data = .cell x4) (d5 : o5.data = .cell x5) (hs3 : 3 ≤ sg) (hs8 : sg ≤ 8) (ht1 : 1 ≤ tb) (hts : tb ≤ sg) (hw4 : 4 ≤ wd) (hw603 : wd ≤ 603) (hU1 : Unit1 tn) (hU2 : Unit1 sd) (hpr : @LT.lt Nat _ (L + 1 + 1 + 1 + 1 + 1) pr) (hPv : IntsAre pv (prds wd.toNat (sg.toNat + 1))) :
    wpAny (model PySem.Challenge.pw_sr0065_01 w) (ktrTop dp un gd (Str.ofString "law") (lawScope w.params) L fa cd (cellsFrom (L + 1) (lawScope w.params).names []) []) (execs (lawBody w.params).tail.tail.tail.tail.tail.tail.tail (lawEnv w.params L fa cd)) Q E s :=
  Clawmid2.allq w p loose mean mg mb dp un gd fa cd A₀ base h₀ L m s Q E o1 o2 o3 o4 o5 x3 x4 x5 sg tb wd tn sd tsg ttb twd ttn tsd pr pv ep B F X T hC1 hC2 N hlt hd1 hu1 hE hQ d1 d2 d3 d4 d5 hs3 hs8 ht1 hts hw4 hw603 hU1 hU2 hpr hPv
end
end
-- LM
theorem fresh_LM : True := by
  w_top off
  exact trivial
local macro_rules | `(tactic| walk_at "subscriptTail Name UnaryOp ref int") => `(tactic| (k_here; k_dflt (refine' item_last ?N ?m ?i ?_ ?s ?t; (case N => k_asm); (case m => k_mem); (case i => assumption); (case s => with_unfolding_all rfl); (case t => kmk_pure)); intro t9))
section
variable {w : World} {p : Program} {loose : List Str} {mean : ExcName → Option Value} {mg mb : Str → Option Value}
end
namespace Clawmid
noncomputable def Pq (w : World) (p : Program) (loose : List Str) (mean : ExcName → Option Value) (mg : Str → Option Value) (mb : Str → Option Value) (dp : Nat) (un : Nat) (gd : Option (List Code)) (fa : Addr) (cd : Value) (A₀ : Around) (base : Heap) (h₀ : Heap) (L : Addr) (m : Str → Option Value) (s : Shared) (Q : Flow → Shared → Prop) (E : Value → Shared → Prop) (o1 : Obj) (o2 : Obj) (o3 : Obj) (o4 : Obj) (o5 : Obj) (x3 : Option Value) (x4 : Option Value) (x5 : Option Value) (sg : Int) (tb : Int) (wd : Int) (tn : Int) (sd : Int) (tsg : Tok) (ttb : Tok) (twd : Tok) (ttn : Tok) (tsd : Tok) : Prop := ∀ (B : Below A₀ base [] h₀) (F : Fr h₀ L s.heap (fun z => if z = Str.ofString "side" then some (.int sd tsd) else if z = Str.ofString "turn" then some (.int tn ttn) else if z = Str.ofString "width" then some (.int wd twd) else m z)) (X : (hd.heap_39 w.params).In h₀) (T : Top p loose mean mg mb h₀) (hC1 : CodeHd h₀ 41 37) (hC2 : CodeHd h₀ 48 44) (N : News h₀ L s.heap ((L + 1 + 1 + 1 + 1 + 1, o5) :: (L + 1 + 1 + 1 + 1, o4) :: (L + 1 + 1 + 1, o3) :: (L + 1 + 1, o2) :: (L + 1, o1) :: (44, tabObj #[]) :: (37, tabObj #[]) :: [])) (hlt : @LT.lt Nat _ 44 L ∧ @LT.lt Nat _ 37 L) (hd1 : dp + 40 < recursionLimit) (hu1 : un + 600 < cLine) (hE : PassesOwn (model PySem.Challenge.pw_sr0065_01 w) (ktrTop dp un gd (Str.ofString "law") (lawScope w.params) L fa cd (cellsFrom (L + 1) (lawScope w.params).names []) []) (lawEnv w.params L fa cd) E) (hQ : ∀ h' tk' m' news', Fr h₀ L h' m' → News h₀ L h' news' → GrownAll [(48, 44), (41, 37)] h' → Q (.ret (.bool true)) { s with heap := h', toks := tk' }) (d1 : o1.data = .cell (some (.int sg tsg))) (d2 : o2.data = .cell (some (.int tb ttb))) (d3 : o3.data = .cell x3) (d4 : o4.data = .cell x4) (d5 : o5.data = .cell x5) (hs3 : 3 ≤ sg) (hs8 : sg ≤ 8) (ht1 : 1 ≤ tb) (hts : tb ≤ sg) (hw4 : 4 ≤ wd) (hw603 : wd ≤ 603) (hU1 : Unit1 tn) (hU2 : Unit1 sd),
    wpAny (model PySem.Challenge.pw_sr0065_01 w) (ktrTop dp un gd (Str.ofString "law") (lawScope w.params) L fa cd (cellsFrom (L + 1) (lawScope w.params).names []) []) (execs (lawBody w.params).tail.tail.tail.tail.tail (lawEnv w.params L fa cd)) Q E s
noncomputable abbrev Tq : Type := ((((((World × Program) × (List Str)) × ((ExcName → Option Value) × (Str → Option Value))) × ((((Str → Option Value) × Nat) × Nat) × ((Option (List Code)) × Addr))) × ((((Value × Around) × Heap) × (Heap × Addr)) × (((Str → Option Value) × Shared) × ((Flow → Shared → Prop) × (Value → Shared → Prop))))) × (((((Obj × Obj) × Obj) × (Obj × Obj)) × (((Option Value) × (Option Value)) × ((Option Value) × Int))) × ((((Int × Int) × Int) × (Int × Tok)) × ((Tok × Tok) × (Tok × Tok)))))
theorem exq : ∃ t : Tq, Pq t.1.1.1.1.1.1 t.1.1.1.1.1.2 t.1.1.1.1.2 t.1.1.1.2.1 t.1.1.1.2.2 t.1.1.2.1.1.1 t.1.1.2.1.1.2 t.1.1.2.1.2 t.1.1.2.2.1 t.1.1.2.2.2 t.1.2.1.1.1.1 t.1.2.1.1.1.2 t.1.2.1.1.2 t.1.2.1.2.1 t.1.2.1.2.2 t.1.2.2.1.1 t.1.2.2.1.2 t.1.2.2.2.1 t.1.2.2.2.2 t.2.1.1.1.1.1 t.2.1.1.1.1.2 t.2.1.1.1.2 t.2.1.1.2.1 t.2.1.1.2.2 t.2.1.2.1.1 t.2.1.2.1.2 t.2.1.2.2.1 t.2.1.2.2.2 t.2.2.1.1.1.1 t.2.2.1.1.1.2 t.2.2.1.1.2 t.2.2.1.2.1 t.2.2.1.2.2 t.2.2.2.1.1 t.2.2.2.1.2 t.2.2.2.2.1 t.2.2.2.2.2 → ∀ t : Tq, Pq t.1.1.1.1.1.1 t.1.1.1.1.1.2 t.1.1.1.1.2 t.1.1.1.2.1 t.1.1.1.2.2 t.1.1.2.1.1.1 t.1.1.2.1.1.2 t.1.1.2.1.2 t.1.1.2.2.1 t.1.1.2.2.2 t.1.2.1.1.1.1 t.1.2.1.1.1.2 t.1.2.1.1.2 t.1.2.1.2.1 t.1.2.1.2.2 t.1.2.2.1.1 t.1.2.2.1.2 t.1.2.2.2.1 t.1.2.2.2.2 t.2.1.1.1.1.1 t.2.1.1.1.1.2 t.2.1.1.1.2 t.2.1.1.2.1 t.2.1.1.2.2 t.2.1.2.1.1 t.2.1.2.1.2 t.2.1.2.2.1 t.2.1.2.2.2 t.2.2.1.1.1.1 t.2.2.1.1.1.2 t.2.2.1.1.2 t.2.2.1.2.1 t.2.2.1.2.2 t.2.2.2.1.1 t.2.2.2.1.2 t.2.2.2.2.1 t.2.2.2.2.2 := dk (α := Tq) (((((((aWorld 0, default), default), ((fun _ => default), (fun _ => default))), ((((fun _ => default), default), default), (default, default))), ((((default, ({} : Around)), default), (default, default)), (((fun _ => default), ({} : Shared)), ((fun _ _ => True), (fun _ _ => True))))), (((((default, default), default), (default, default)), ((default, default), (default, default))), ((((default, default), default), (default, default)), ((default, default), (default, default)))))) _
noncomputable def cq : Tq := Classical.choose exq
@[irreducible] noncomputable def w : World := cq.1.1.1.1.1.1
@[irreducible] noncomputable def p : Program := cq.1.1.1.1.1.2
@[irreducible] noncomputable def loose : List Str := cq.1.1.1.1.2
@[irreducible] noncomputable def mean : ExcName → Option Value := cq.1.1.1.2.1
@[irreducible] noncomputable def mg : Str → Option Value := cq.1.1.1.2.2
@[irreducible] noncomputable def mb : Str → Option Value := cq.1.1.2.1.1.1
@[irreducible] noncomputable def dp : Nat := cq.1.1.2.1.1.2
@[irreducible] noncomputable def un : Nat := cq.1.1.2.1.2
@[irreducible] noncomputable def gd : Option (List Code) := cq.1.1.2.2.1
@[irreducible] noncomputable def fa : Addr := cq.1.1.2.2.2
@[irreducible] noncomputable def cd : Value := cq.1.2.1.1.1.1
@[irreducible] noncomputable def A₀ : Around := cq.1.2.1.1.1.2
@[irreducible] noncomputable def base : Heap := cq.1.2.1.1.2
@[irreducible] noncomputable def h₀ : Heap := cq.1.2.1.2.1
@[irreducible] noncomputable def L : Addr := cq.1.2.1.2.2
@[irreducible] noncomputable def m : Str → Option Value := cq.1.2.2.1.1
@[irreducible] noncomputable def s : Shared := cq.1.2.2.1.2
@[irreducible] noncomputable def Q : Flow → Shared → Prop := cq.1.2.2.2.1
@[irreducible] noncomputable def E : Value → Shared → Prop := cq.1.2.2.2.2
@[irreducible] noncomputable def o1 : Obj := cq.2.1.1.1.1.1
@[irreducible] noncomputable def o2 : Obj := cq.2.1.1.1.1.2
@[irreducible] noncomputable def o3 : Obj := cq.2.1.1.1.2
@[irreducible] noncomputable def o4 : Obj := cq.2.1.1.2.1
@[irreducible] noncomputable def o5 : Obj := cq.2.1.1.2.2
@[irreducible] noncomputable def x3 : Option Value := cq.2.1.2.1.1
@[irreducible] noncomputable def x4 : Option Value := cq.2.1.2.1.2
@[irreducible] noncomputable def x5 : Option Value := cq.2.1.2.2.1
@[irreducible] noncomputable def sg : Int := cq.2.1.2.2.2
@[irreducible] noncomputable def tb : Int := cq.2.2.1.1.1.1
@[irreducible] noncomputable def wd : Int := cq.2.2.1.1.1.2
@[irreducible] noncomputable def tn : Int := cq.2.2.1.1.2
@[irreducible] noncomputable def sd : Int := cq.2.2.1.2.1
@[irreducible] noncomputable def tsg : Tok := cq.2.2.1.2.2
@[irreducible] noncomputable def ttb : Tok := cq.2.2.2.1.1
@[irreducible] noncomputable def twd : Tok := cq.2.2.2.1.2
@[irreducible] noncomputable def ttn : Tok := cq.2.2.2.2.1
@[irreducible] noncomputable def tsd : Tok := cq.2.2.2.2.2
theorem coreq : Pq w p loose mean mg mb dp un gd fa cd A₀ base h₀ L m s Q E o1 o2 o3 o4 o5 x3 x4 x5 sg tb wd tn sd tsg ttb twd ttn tsd := by
  unfold Pq
  intro B F X T hC1 hC2 N hlt hd1 hu1 hE hQ d1 d2 d3 d4 d5 hs3 hs8 ht1 hts hw4 hw603 hU1 hU2
  dsimp only [lawBody, lawEnv, lawO, stmtsOf, lawScope, scopeOf, List.tail]
  (((try dsimp only); walk1; (try ((with_reducible show wpAny _ _ (execs _ _) _ _ _); walk1)); (repeat' ((fail_if_success (with_reducible first | (show Pre _) | (show wpAny _ _ (execs _ _) _ _ _) | (show TurnOk _ _ _ _ _ _ _ _ _ _ _) | (show wpAny _ _ (exec (Stmt.While _ _ _ _) _) _ _ _) | (show wpAny _ _ (pyIter _) _ _ _) | (show wpAny _ _ (call (Value.ref _) _) _ _ _))); walk_at "TRY"))))
  (((try dsimp only); walk1; (try ((with_reducible show wpAny _ _ (execs _ _) _ _ _); walk1)); (repeat' ((fail_if_success (with_reducible first | (show Pre _) | (show wpAny _ _ (execs _ _) _ _ _) | (show TurnOk _ _ _ _ _ _ _ _ _ _ _) | (show wpAny _ _ (exec (Stmt.While _ _ _ _) _) _ _ _) | (show wpAny _ _ (pyIter _) _ _ _) | (show wpAny _ _ (call (Value.ref _) _) _ _ _))); walk_at "TRY"))))
  (rename IsRange _ _ _ _ _ _ _ _ => rg); (rename Fr _ _ _ _ => lF'); (rename News _ _ _ _ => lN')
  (with_unfolding_all refine' iter_range (σ := List Value × Nat) (n := sg.toNat) (fun c => (_, listOf c.1.toArray c.2) :: (L + 1 + 1 + 1 + 1 + 1, o5) :: (L + 1 + 1 + 1 + 1, o4) :: (L + 1 + 1 + 1, o3) :: (L + 1 + 1, o2) :: (L + 1, o1) :: (44, tabObj #[]) :: (37, tabObj #[]) :: []) (fun _ => []) [Str.ofString "count"] (fun i c => IntsAre c.1 (prds wd.toNat i ++ [prd wd.toNat i])) ([.int 1 s.toks], 0) (by rfl) rg ?small ?size lF' lN' ?hk ?h0 ?turn ?done)
  case hk => intro p hp; cases hp
  case h0 => exact IntsAre.cons 1 s.toks IntsAre.nil
  case small => exact small_one (by decide) (by decide) (by omega) (by omega)
  case size => (have e : ((sg.toNat : Nat) : Int) = sg := by omega); rw [rangeSize1]; omega
  case turn =>
    rintro i v ⟨vq, ep⟩ u h tk I oI hi ⟨t, rfl⟩ hV hoff F1 N1
    clear lF' lN'
    dsimp only at hV hoff F1 N1
    have hvq : vq.length = i + 1 := by rw [hV.length]; simp [prds_len]
    have hsz : vq.toArray.size ≤ sizeLine := by rw [List.size_toArray, hvq, sizeLine_eq]; omega
    have hne1 := neN (List.forall_mem_cons.mp hoff).1
    have hne2 := (List.forall_mem_cons.mp hoff).2
    (try k_fold)
    walk_at "STEPS"
    · exact mulOk_small (by omega) (by omega)
    · exact Int.mul_nonneg (by omega) (by omega)
    · exact pow_preL (Int.mul_nonneg (by omega) (by omega)) (Int.mul_le_mul hw603 (by omega) (by omega) (by omega))
    · have hb1 := prd_bits (W := wd.toNat) (k := i) (by omega) (by omega) (by omega)
      have hwi2 : wd * (1 + (i : Int)) ≤ 603 * 8 := Int.mul_le_mul hw603 (by omega) (by omega) (by omega)
      have h2 := two_pow_pos (wd * (1 + (i : Int))).toNat
      have hb2 : Builtin.Int.intBits (2 ^ (wd * (1 + (i : Int))).toNat - 1) ≤ (wd * (1 + (i : Int))).toNat := intBits_le (by omega) (by omega)
      exact IntMulOk.of_bits (by omega) (by omega)
    · (rename News _ _ _ _ => nE); simp only [List.push_toArray] at nE
      refine TurnOk.intro (vq ++ [_], ep + 1) (by assumption) nE (by k_mem) (by (((try dsimp only); (repeat (refine List.forall_mem_cons.mpr ⟨by k_mem, ?_⟩)); first | exact List.forall_mem_nil _ | walk_at "SUB"))) (List.forall_mem_cons.mpr ⟨hne1, hne2⟩) (fun p hp => nomatch hp) (by ((intro zq104 h2q104 h3q104; (try simp only [List.forall_mem_cons, List.not_mem_nil, false_implies, implies_true, and_true, ne_eq] at h2q104); (simp only [List.contains_cons, List.contains_nil, Bool.or_false, Bool.or_eq_false_iff, beq_eq_false_iff_ne, ne_eq] at h3q104); first | (simp [h2q104, h3q104, kstB]; done) | (simp [h3q104, kstB]; done) | simp_all [kstB]))) ?_
      rw [prds_succ, show prd wd.toNat (i + 1) = prd wd.toNat i * (2 ^ (wd * (1 + (i : Int))).toNat - 1) by rw [pow_arg hw4]; rfl]
      exact ints_snoc hV
  case done =>
    rintro ⟨vq, ep⟩ u h tk hV F2 N2
    clear lF' lN'
    dsimp only at hV F2 N2
    replace F2 : Fr h₀ L h _ := F2
    have F3 := frN (Str.ofString "products") (.ref _) (frN (Str.ofString "side") (.int sd tsd) (frN (Str.ofString "turn") (.int tn ttn) (frN (Str.ofString "width") (.int wd twd) F2 rfl) rfl) rfl) rfl
    rw [← prds_succ] at hV
    (k_dflt (refine' law_mid2 B F3 X T hC1 hC2 N2 hlt hd1 hu1 hE ?hQ d1 d2 d3 d4 d5 hs3 hs8 ht1 hts hw4 hw603 hU1 hU2 ?lt hV))
    (case lt => exact (show _ ∧ _ ∧ _ ∧ _ ∧ _ ∧ _ ∧ _ from by assumption).1)
    (case hQ => (intro h' tk' m' n' F' N' G'; exact hQ h' tk' m' n' F' N' G'))
theorem allq (w : World) (p : Program) (loose : List Str) (mean : ExcName → Option Value) (mg : Str → Option Value) (mb : Str → Option Value) (dp : Nat) (un : Nat) (gd : Option (List Code)) (fa : Addr) (cd : Value) (A₀ : Around) (base : Heap) (h₀ : Heap) (L : Addr) (m : Str → Option Value) (s : Shared) (Q : Flow → Shared → Prop) (E : Value → Shared → Prop) (o1 : Obj) (o2 : Obj) (o3 : Obj) (o4 : Obj) (o5 : Obj) (x3 : Option Value) (x4 : Option Value) (x5 : Option Value) (sg : Int) (tb : Int) (wd : Int) (tn : Int) (sd : Int) (tsg : Tok) (ttb : Tok) (twd : Tok) (ttn : Tok) (tsd : Tok) : Pq w p loose mean mg mb dp un gd fa cd A₀ base h₀ L m s Q E o1 o2 o3 o4 o5 x3 x4 x5 sg tb wd tn sd tsg ttb twd ttn tsd := by
  with_unfolding_all exact Classical.choose_spec exq coreq ((((((w, p), loose), (mean, mg)), (((mb, dp), un), (gd, fa))), ((((cd, A₀), base), (h₀, L)), ((m, s), (Q, E)))), (((((o1, o2), o3), (o4, o5)), ((x3, x4), (x5, sg))), ((((tb, wd), tn), (sd, tsg)), ((ttb, twd), (ttn, tsd)))))
end Clawmid
section
variable {w : World} {p : Program} {loose : List Str} {mean : ExcName → Option Value} {mg mb : Str → Option Value}
theorem law_mid {dp un : Nat} {gd : Option (List Code)} {fa : Addr} {cd : Value} {A₀ : Around} {base h₀ : Heap} {L : Addr} {m : Str → Option Value} {s : Shared} {Q : Flow → Shared → Prop} {E : Value → Shared → Prop} {o1 o2 o3 o4 o5 : Obj} {x3 x4 x5 : Option Value} {sg tb wd tn sd : Int} {tsg ttb twd ttn tsd : Tok}
    (B : Below A₀ base [] h₀) (F : Fr h₀ L s.heap (fun z => if z = Str.ofString "side" then some (.int sd tsd) else if z = Str.ofString "turn" then some (.int tn ttn) else if z = Str.ofString "width" then some (.int wd twd) else m z)) (X : (hd.heap_39 w.params).In h₀) (T : Top p loose mean mg mb h₀) (hC1 : CodeHd h₀ 41 37) (hC2 : CodeHd h₀ 48 44)
    (N : News h₀ L s.heap ((L + 1 + 1 + 1 + 1 + 1, o5) :: (L + 1 + 1 + 1 + 1, o4) :: (L + 1 + 1 + 1, o3) :: (L + 1 + 1, o2) :: (L + 1, o1) :: (44, tabObj #[]) :: (37, tabObj #[]) :: []))
    (hlt : @LT.lt Nat _ 44 L ∧ @LT.lt Nat _ 37 L) (hd1 : dp + 40 < recursionLimit) (hu1 : un + 600 < cLine)
    (hE : PassesOwn (model PySem.Challenge.pw_sr0065_01 w) (ktrTop dp un gd (Str.ofString "law") (lawScope w.params) L fa cd (cellsFrom (L + 1) (lawScope w.params).names []) []) (lawEnv w.params L fa cd) E)
    (hQ : ∀ h' tk' m' news', Fr h₀ L h' m' → News h₀ L h' news' → GrownAll [(48, 44), (41, 37)] h' → Q (.ret (.bool true)) { s with heap := h', toks := tk' })
    (d1 : o1.data = .cell (some (.int sg tsg))) (d2 : o2.data = .cell (some (.int tb ttb))) (d3 : o3.data = .cell x3) (d4 : o4.data = .cell x4) (d5 : o5.data = .cell x5) (hs3 : 3 ≤ sg) (hs8 : sg ≤ 8) (ht1 : 1 ≤ tb) (hts : tb ≤ sg) (hw4 : 4 ≤ wd) (hw603 : wd ≤ 603) (hU1 : Unit1 tn) (hU2 : Unit1 sd) :
    wpAny (model PySem.Challenge.pw_sr0065_01 w) (ktrTop dp un gd (Str.ofString "law") (lawScope w.params) L fa cd (cellsFrom (L + 1) (lawScope w.params).names []) []) (execs (lawBody w.params).tail.tail.tail.tail.tail (lawEnv w.params L fa cd)) Q E s :=
  Clawmid.allq w p loose mean mg mb dp un gd fa cd A₀ base h₀ L m s Q E o1 o2 o3 o4 o5 x3 x4 x5 sg tb wd tn sd tsg ttb twd ttn tsd B F X T hC1 hC2 N hlt hd1 hu1 hE hQ d1 d2 d3 d4 d5 hs3 hs8 ht1 hts hw4 hw603 hU1 hU2
end
-- LH
theorem fresh_LH : True := by
  w_top off
  exact trivial
local macro_rules | `(tactic| walk_at "NOLIA") => `(tactic| skip)
theorem pick4 {a1 a2 a3 a4 : Addr} {t1 t2 t3 t4 t5 t6 t7 t8 : Tok} {d : Int} {v : Value} {news : Led} {h₀ h : Heap} {L : Addr} (_N : News h₀ L h news) (h : [Value.ref a1, .ref a2, .ref a3, .ref a4][(d % 4).toNat]? = some v)
    (m1 : (a1, tupO [.int 1 t1, .int 1 t2]) ∈ news) (m2 : (a2, tupO [.int (-1) t3, .int 1 t4]) ∈ news) (m3 : (a3, tupO [.int 1 t5, .int (-1) t6]) ∈ news) (m4 : (a4, tupO [.int (-1) t7, .int (-1) t8]) ∈ news) :
    ∃ t u x tu tx, v = .ref t ∧ (t, tupO [.int u tu, .int x tx]) ∈ news ∧ Unit1 u ∧ Unit1 x := by
  have p : Unit1 1 := .inl rfl
  have q : Unit1 (-1) := .inr rfl
  generalize (d % 4).toNat = k at h
  rcases k with _ | _ | _ | _ | k <;> cases h
  · exact ⟨_, _, _, _, _, rfl, m1, p, p⟩
  · exact ⟨_, _, _, _, _, rfl, m2, q, p⟩
  · exact ⟨_, _, _, _, _, rfl, m3, p, q⟩
  · exact ⟨_, _, _, _, _, rfl, m4, q, q⟩
theorem wd_pick (n : Nat) : 0 ≤ [0, 0, 0, 0, 0, 0, 0, (560 : Int)].getD n 0 ∧ [0, 0, 0, 0, 0, 0, 0, (560 : Int)].getD n 0 ≤ 560 := by
  rcases n with _ | _ | _ | _ | _ | _ | _ | _ | n
  · decide
  · decide
  · decide
  · decide
  · decide
  · decide
  · decide
  · decide
  · exact ⟨Int.le_refl 0, show (0 : Int) ≤ 560 by decide⟩
theorem wd_bounds (c : Int) : 4 ≤ 4 + c % 40 + [0, 0, 0, 0, 0, 0, 0, 560].getD (c / 40 % 8).toNat 0 ∧ 4 + c % 40 + [0, 0, 0, 0, 0, 0, 0, 560].getD (c / 40 % 8).toNat 0 ≤ 603 := by
  have h0 := Int.emod_nonneg c (show (40 : Int) ≠ 0 by decide)
  have h1 := Int.emod_lt_of_pos c (show (0 : Int) < 40 by decide)
  have h2 := wd_pick (c / 40 % 8).toNat
  generalize [0, 0, 0, 0, 0, 0, 0, (560 : Int)].getD (c / 40 % 8).toNat 0 = x at *
  generalize c % 40 = y at *
  omega
section
variable {w : World} {p : Program} {loose : List Str} {mean : ExcName → Option Value} {mg mb : Str → Option Value}
end
namespace Clawrun
noncomputable def Pq (w : World) (p : Program) (loose : List Str) (mean : ExcName → Option Value) (mg : Str → Option Value) (mb : Str → Option Value) (dp : Nat) (un : Nat) (gd : Option (List Code)) (fa : Addr) (cd : Value) (A₀ : Around) (base : Heap) (h₀ : Heap) (L : Addr) (l : Addr) (m : Str → Option Value) (s : Shared) (Q : Flow → Shared → Prop) (E : Value → Shared → Prop) (o1 : Obj) (o2 : Obj) (o3 : Obj) (o4 : Obj) (o5 : Obj) (x1 : Option Value) (x2 : Option Value) (x3 : Option Value) (x4 : Option Value) (x5 : Option Value) (vs : List Value) (ns : List Int) : Prop := ∀ (B : Below A₀ base [] h₀) (F : Fr h₀ L s.heap (fun z => if z = Str.ofString "script" then some (.ref l) else m z)) (X : (hd.heap_39 w.params).In h₀) (T : Top p loose mean mg mb h₀) (hC1 : CodeHd h₀ 41 37) (hC2 : CodeHd h₀ 48 44) (N : News h₀ L s.heap [(L + 1 + 1 + 1 + 1 + 1, o5), (L + 1 + 1 + 1 + 1, o4), (L + 1 + 1 + 1, o3), (L + 1 + 1, o2), (L + 1, o1), (44, tabObj #[]), (37, tabObj #[])]) (hlt : @LT.lt Nat _ 44 L ∧ @LT.lt Nat _ 37 L) (d1 : o1.data = .cell x1) (d2 : o2.data = .cell x2) (d3 : o3.data = .cell x3) (d4 : o4.data = .cell x4) (d5 : o5.data = .cell x5) (hl : h₀.IsList l vs.toArray) (hI : IntsAre vs ns) (hlen : ns.length ≤ 63) (hd1 : dp + 40 < recursionLimit) (hu1 : un + 600 < cLine) (hE : PassesOwn (model PySem.Challenge.pw_sr0065_01 w) (ktrTop dp un gd (Str.ofString "law") (lawScope w.params) L fa cd (cellsFrom (L + 1) (lawScope w.params).names []) []) (lawEnv w.params L fa cd) E) (hQ : ∀ h' tk' m' news', Fr h₀ L h' m' → News h₀ L h' news' → GrownAll [(48, 44), (41, 37)] h' → Q (.ret (.bool true)) { s with heap := h', toks := tk' }),
    wpAny (model PySem.Challenge.pw_sr0065_01 w) (ktrTop dp un gd (Str.ofString "law") (lawScope w.params) L fa cd (cellsFrom (L + 1) (lawScope w.params).names []) []) (execs (lawBody w.params) (lawEnv w.params L fa cd)) Q E s
noncomputable abbrev Tq : Type := (((((World × Program) × ((List Str) × (ExcName → Option Value))) × (((Str → Option Value) × (Str → Option Value)) × (Nat × Nat))) × ((((Option (List Code)) × Addr) × (Value × Around)) × ((Heap × Heap) × (Addr × Addr)))) × (((((Str → Option Value) × Shared) × ((Flow → Shared → Prop) × (Value → Shared → Prop))) × ((Obj × Obj) × (Obj × Obj))) × (((Obj × (Option Value)) × ((Option Value) × (Option Value))) × (((Option Value) × (Option Value)) × ((List Value) × (List Int))))))
theorem exq : ∃ t : Tq, Pq t.1.1.1.1.1 t.1.1.1.1.2 t.1.1.1.2.1 t.1.1.1.2.2 t.1.1.2.1.1 t.1.1.2.1.2 t.1.1.2.2.1 t.1.1.2.2.2 t.1.2.1.1.1 t.1.2.1.1.2 t.1.2.1.2.1 t.1.2.1.2.2 t.1.2.2.1.1 t.1.2.2.1.2 t.1.2.2.2.1 t.1.2.2.2.2 t.2.1.1.1.1 t.2.1.1.1.2 t.2.1.1.2.1 t.2.1.1.2.2 t.2.1.2.1.1 t.2.1.2.1.2 t.2.1.2.2.1 t.2.1.2.2.2 t.2.2.1.1.1 t.2.2.1.1.2 t.2.2.1.2.1 t.2.2.1.2.2 t.2.2.2.1.1 t.2.2.2.1.2 t.2.2.2.2.1 t.2.2.2.2.2 → ∀ t : Tq, Pq t.1.1.1.1.1 t.1.1.1.1.2 t.1.1.1.2.1 t.1.1.1.2.2 t.1.1.2.1.1 t.1.1.2.1.2 t.1.1.2.2.1 t.1.1.2.2.2 t.1.2.1.1.1 t.1.2.1.1.2 t.1.2.1.2.1 t.1.2.1.2.2 t.1.2.2.1.1 t.1.2.2.1.2 t.1.2.2.2.1 t.1.2.2.2.2 t.2.1.1.1.1 t.2.1.1.1.2 t.2.1.1.2.1 t.2.1.1.2.2 t.2.1.2.1.1 t.2.1.2.1.2 t.2.1.2.2.1 t.2.1.2.2.2 t.2.2.1.1.1 t.2.2.1.1.2 t.2.2.1.2.1 t.2.2.1.2.2 t.2.2.2.1.1 t.2.2.2.1.2 t.2.2.2.2.1 t.2.2.2.2.2 := dk (α := Tq) ((((((aWorld 0, default), (default, (fun _ => default))), (((fun _ => default), (fun _ => default)), (default, default))), (((default, default), (default, ({} : Around))), ((default, default), (default, default)))), (((((fun _ => default), ({} : Shared)), ((fun _ _ => True), (fun _ _ => True))), ((default, default), (default, default))), (((default, default), (default, default)), ((default, default), (default, default)))))) _
noncomputable def cq : Tq := Classical.choose exq
@[irreducible] noncomputable def w : World := cq.1.1.1.1.1
@[irreducible] noncomputable def p : Program := cq.1.1.1.1.2
@[irreducible] noncomputable def loose : List Str := cq.1.1.1.2.1
@[irreducible] noncomputable def mean : ExcName → Option Value := cq.1.1.1.2.2
@[irreducible] noncomputable def mg : Str → Option Value := cq.1.1.2.1.1
@[irreducible] noncomputable def mb : Str → Option Value := cq.1.1.2.1.2
@[irreducible] noncomputable def dp : Nat := cq.1.1.2.2.1
@[irreducible] noncomputable def un : Nat := cq.1.1.2.2.2
@[irreducible] noncomputable def gd : Option (List Code) := cq.1.2.1.1.1
@[irreducible] noncomputable def fa : Addr := cq.1.2.1.1.2
@[irreducible] noncomputable def cd : Value := cq.1.2.1.2.1
@[irreducible] noncomputable def A₀ : Around := cq.1.2.1.2.2
@[irreducible] noncomputable def base : Heap := cq.1.2.2.1.1
@[irreducible] noncomputable def h₀ : Heap := cq.1.2.2.1.2
@[irreducible] noncomputable def L : Addr := cq.1.2.2.2.1
@[irreducible] noncomputable def l : Addr := cq.1.2.2.2.2
@[irreducible] noncomputable def m : Str → Option Value := cq.2.1.1.1.1
@[irreducible] noncomputable def s : Shared := cq.2.1.1.1.2
@[irreducible] noncomputable def Q : Flow → Shared → Prop := cq.2.1.1.2.1
@[irreducible] noncomputable def E : Value → Shared → Prop := cq.2.1.1.2.2
@[irreducible] noncomputable def o1 : Obj := cq.2.1.2.1.1
@[irreducible] noncomputable def o2 : Obj := cq.2.1.2.1.2
@[irreducible] noncomputable def o3 : Obj := cq.2.1.2.2.1
@[irreducible] noncomputable def o4 : Obj := cq.2.1.2.2.2
@[irreducible] noncomputable def o5 : Obj := cq.2.2.1.1.1
@[irreducible] noncomputable def x1 : Option Value := cq.2.2.1.1.2
@[irreducible] noncomputable def x2 : Option Value := cq.2.2.1.2.1
@[irreducible] noncomputable def x3 : Option Value := cq.2.2.1.2.2
@[irreducible] noncomputable def x4 : Option Value := cq.2.2.2.1.1
@[irreducible] noncomputable def x5 : Option Value := cq.2.2.2.1.2
@[irreducible] noncomputable def vs : List Value := cq.2.2.2.2.1
@[irreducible] noncomputable def ns : List Int := cq.2.2.2.2.2
theorem coreq : Pq w p loose mean mg mb dp un gd fa cd A₀ base h₀ L l m s Q E o1 o2 o3 o4 o5 x1 x2 x3 x4 x5 vs ns := by
  unfold Pq
  intro B F X T hC1 hC2 N hlt d1 d2 d3 d4 d5 hl hI hlen hd1 hu1 hE hQ
  dsimp only [lawBody, lawEnv, lawO, stmtsOf, lawScope, scopeOf]
  (((try dsimp only); walk1; (try ((with_reducible show wpAny _ _ (execs _ _) _ _ _); walk1)); (repeat' ((fail_if_success (with_reducible first | (show Pre _) | (show wpAny _ _ (execs _ _) _ _ _) | (show TurnOk _ _ _ _ _ _ _ _ _ _ _) | (show wpAny _ _ (exec (Stmt.While _ _ _ _) _) _ _ _) | (show wpAny _ _ (pyIter _) _ _ _) | (show wpAny _ _ (call (Value.ref _) _) _ _ _))); walk_at "TRY"))))
  (rename IntsAre _ _ => hD0)
  obtain ⟨a, b, c, d, hD⟩ := drawn4 hD0
  clear hD0
  (((try dsimp only); walk1; (try ((with_reducible show wpAny _ _ (execs _ _) _ _ _); walk1)); (repeat' ((fail_if_success (with_reducible first | (show Pre _) | (show wpAny _ _ (execs _ _) _ _ _) | (show TurnOk _ _ _ _ _ _ _ _ _ _ _) | (show wpAny _ _ (exec (Stmt.While _ _ _ _) _) _ _ _) | (show wpAny _ _ (pyIter _) _ _ _) | (show wpAny _ _ (call (Value.ref _) _) _ _ _))); walk_at "TRY"))))
  all_goals (try ((with_reducible show Pre _); exact ⟨by omega, by omega⟩))
  (rename _ = Data.cell _ => dS)
  (change _ = Data.cell (some (Value.int (3 + a % 6) _)) at dS)
  obtain ⟨sg, hsg⟩ : ∃ sg, sg = 3 + a % 6 := ⟨_, rfl⟩
  rw [← hsg] at dS
  have hs3 : 3 ≤ sg := by omega
  have hs8 : sg ≤ 8 := by omega
  clear hsg
  dsimp only at dS
  (((try dsimp only); walk1; (try ((with_reducible show wpAny _ _ (execs _ _) _ _ _); walk1)); (repeat' ((fail_if_success (with_reducible first | (show Pre _) | (show wpAny _ _ (execs _ _) _ _ _) | (show TurnOk _ _ _ _ _ _ _ _ _ _ _) | (show wpAny _ _ (exec (Stmt.While _ _ _ _) _) _ _ _) | (show wpAny _ _ (pyIter _) _ _ _) | (show wpAny _ _ (call (Value.ref _) _) _ _ _))); walk_at "TRY"))))
  all_goals (try ((with_reducible show Pre _); exact ⟨by omega, by omega⟩))
  (rename _ = Data.cell _ => dT)
  (change _ = Data.cell (some (Value.int (1 + b % sg) _)) at dT)
  obtain ⟨tb, htb⟩ : ∃ tb, tb = 1 + b % sg := ⟨_, rfl⟩
  rw [← htb] at dT
  have ht1 : 1 ≤ tb := by have := Int.emod_nonneg b (show sg ≠ 0 by omega); omega
  have hts : tb ≤ sg := by have := Int.emod_lt_of_pos b (show 0 < sg by omega); omega
  clear htb
  dsimp only at dT
  (((try dsimp only); walk1; (try ((with_reducible show wpAny _ _ (execs _ _) _ _ _); walk1)); (repeat' ((fail_if_success (with_reducible first | (show Pre _) | (show wpAny _ _ (execs _ _) _ _ _) | (show TurnOk _ _ _ _ _ _ _ _ _ _ _) | (show wpAny _ _ (exec (Stmt.While _ _ _ _) _) _ _ _) | (show wpAny _ _ (pyIter _) _ _ _) | (show wpAny _ _ (call (Value.ref _) _) _ _ _))); walk_at "TRY"))))
  all_goals (try ((with_reducible show Pre _); exact ⟨by omega, by omega⟩))
  (rename Fr _ _ _ _ => F3)
  have hwb := wd_bounds c
  dsimp only at F3 ⊢
  (change Fr _ _ _ (fun y => if y = _ then some (Value.int (4 + c % 40 + [0, 0, 0, 0, 0, 0, 0, 560].getD (c / 40 % 8).toNat 0) _) else _) at F3)
  generalize 4 + c % 40 + [0, 0, 0, 0, 0, 0, 0, 560].getD (c / 40 % 8).toNat 0 = wd at F3 hwb
  ((try dsimp only); walk1; (try ((with_reducible show wpAny _ _ (execs _ _) _ _ _); walk1)); (repeat' ((fail_if_success (with_reducible first | (show Pre _) | (show wpAny _ _ (subscriptTail _ _ _ _) _ _ _) | (show wpAny _ _ (assign _ _ _) _ _ _) | (show wpAny _ _ (execs _ _) _ _ _))); walk_at "TRY")))
  walk1
  (repeat' ((fail_if_success (with_reducible first | (show Pre _) | (show wpAny _ _ (subscriptTail _ _ _ _) _ _ _) | (show wpAny _ _ (assign _ _ _) _ _ _) | (show wpAny _ _ (execs _ _) _ _ _))); walk_at "TRY"))
  all_goals (try ((with_reducible show Pre _); exact ⟨by omega, by omega⟩))
  (k_dflt (refine kba_turn (value' := PySem.Expr.Name (PySem.Str.ofString "_") ⟨0, 0, 0, 0⟩) (fun _ => rfl) ?_))
  (k_dflt (refine' item_any ?N ?m ?i ?_ ?s ?t; (case N => k_asm); (case m => k_mem); (case s => with_unfolding_all rfl); (case t => kmk_pure)))
  (case i => (have h0 := Int.emod_nonneg d (show (4 : Int) ≠ 0 by decide)); (have h1 := Int.emod_lt_of_pos d (show (0 : Int) < 4 by decide)); exact ⟨h0, (show d % 4 < 4 from h1), by (change d % 4 < 2 ^ 62; omega)⟩)
  intro v9 hv9
  (rename News _ _ _ _ => nN)
  obtain ⟨t9, u9, x9, tu, tx, rfl, hm9, hU1, hU2⟩ := pick4 nN hv9 (by k_mem) (by k_mem) (by k_mem) (by k_mem)
  (k_dflt (refine assign_two rfl (by k_asm) nN hm9 ?_))
  intro h9 F9 N9
  clear nN
  (repeat' ((fail_if_success (with_reducible first | (show Pre _) | (show wpAny _ _ (execs _ _) _ _ _) | (show TurnOk _ _ _ _ _ _ _ _ _ _ _) | (show wpAny _ _ (exec (Stmt.While _ _ _ _) _) _ _ _) | (show wpAny _ _ (pyIter _) _ _ _) | (show wpAny _ _ (call (Value.ref _) _) _ _ _))); walk_at "TRY"))
  (rename Fr _ _ _ _ => F10)
  (rename News _ _ _ _ => N10)
  (k_dflt (refine' law_mid B F10 X T hC1 hC2 (cb_drop N10 ?sub) hlt hd1 hu1 hE ?hQ dS dT d3 d4 d5 hs3 hs8 ht1 hts hwb.1 hwb.2 hU1 hU2))
  (case sub => lcg_sub)
  (case hQ => (intro h' tk' m' n' F' N' G'; exact hQ h' tk' m' n' F' N' G'))
theorem allq (w : World) (p : Program) (loose : List Str) (mean : ExcName → Option Value) (mg : Str → Option Value) (mb : Str → Option Value) (dp : Nat) (un : Nat) (gd : Option (List Code)) (fa : Addr) (cd : Value) (A₀ : Around) (base : Heap) (h₀ : Heap) (L : Addr) (l : Addr) (m : Str → Option Value) (s : Shared) (Q : Flow → Shared → Prop) (E : Value → Shared → Prop) (o1 : Obj) (o2 : Obj) (o3 : Obj) (o4 : Obj) (o5 : Obj) (x1 : Option Value) (x2 : Option Value) (x3 : Option Value) (x4 : Option Value) (x5 : Option Value) (vs : List Value) (ns : List Int) : Pq w p loose mean mg mb dp un gd fa cd A₀ base h₀ L l m s Q E o1 o2 o3 o4 o5 x1 x2 x3 x4 x5 vs ns := by
  with_unfolding_all exact Classical.choose_spec exq coreq (((((w, p), (loose, mean)), ((mg, mb), (dp, un))), (((gd, fa), (cd, A₀)), ((base, h₀), (L, l)))), ((((m, s), (Q, E)), ((o1, o2), (o3, o4))), (((o5, x1), (x2, x3)), ((x4, x5), (vs, ns)))))
end Clawrun
section
variable {w : World} {p : Program} {loose : List Str} {mean : ExcName → Option Value} {mg mb : Str → Option Value}
theorem law_run {dp un : Nat} {gd : Option (List Code)} {fa : Addr} {cd : Value} {A₀ : Around} {base h₀ : Heap} {L l : Addr} {m : Str → Option Value} {s : Shared} {Q : Flow → Shared → Prop} {E : Value → Shared → Prop}
    {o1 o2 o3 o4 o5 : Obj} {x1 x2 x3 x4 x5 : Option Value} {vs : List Value} {ns : List Int}
    (B : Below A₀ base [] h₀) (F : Fr h₀ L s.heap (fun z => if z = Str.ofString "script" then some (.ref l) else m z)) (X : (hd.heap_39 w.params).In h₀) (T : Top p loose mean mg mb h₀) (hC1 : CodeHd h₀ 41 37) (hC2 : CodeHd h₀ 48 44)
    (N : News h₀ L s.heap [(L + 1 + 1 + 1 + 1 + 1, o5), (L + 1 + 1 + 1 + 1, o4), (L + 1 + 1 + 1, o3), (L + 1 + 1, o2), (L + 1, o1), (44, tabObj #[]), (37, tabObj #[])]) (hlt : @LT.lt Nat _ 44 L ∧ @LT.lt Nat _ 37 L)
    (d1 : o1.data = .cell x1) (d2 : o2.data = .cell x2) (d3 : o3.data = .cell x3) (d4 : o4.data = .cell x4) (d5 : o5.data = .cell x5)
    (hl : h₀.IsList l vs.toArray) (hI : IntsAre vs ns) (hlen : ns.length ≤ 63) (hd1 : dp + 40 < recursionLimit) (hu1 : un + 600 < cLine)
    (hE : PassesOwn (model PySem.Challenge.pw_sr0065_01 w) (ktrTop dp un gd (Str.ofString "law") (lawScope w.params) L fa cd (cellsFrom (L + 1) (lawScope w.params).names []) []) (lawEnv w.params L fa cd) E)
    (hQ : ∀ h' tk' m' news', Fr h₀ L h' m' → News h₀ L h' news' → GrownAll [(48, 44), (41, 37)] h' → Q (.ret (.bool true)) { s with heap := h', toks := tk' }) :
    wpAny (model PySem.Challenge.pw_sr0065_01 w) (ktrTop dp un gd (Str.ofString "law") (lawScope w.params) L fa cd (cellsFrom (L + 1) (lawScope w.params).names []) []) (execs (lawBody w.params) (lawEnv w.params L fa cd)) Q E s :=
  Clawrun.allq w p loose mean mg mb dp un gd fa cd A₀ base h₀ L l m s Q E o1 o2 o3 o4 o5 x1 x2 x3 x4 x5 vs ns B F X T hC1 hC2 N hlt d1 d2 d3 d4 d5 hl hI hlen hd1 hu1 hE hQ
end
end Mine
theorem PySem.Challenge.cw_sr0065_01_holds : PySem.Challenge.rw_sr0065_01.Holds :=
  Mine.hd (by
    w_strict (k_go0; (all_goals try with_reducible show wpAny _ _ _ _ _ _ _); (rename Below _ _ _ _ => jB); (rename Fr _ _ _ _ => jF); (rename News _ _ _ _ => jN); (rename Top _ _ _ _ _ _ => jT); (rename Frag.In _ _ => jX); (k_dflt (refine' Mine.law_run (dp := 2 + claimMargin) jB jF jX jT ?c1 ?c2 jN ?lt ?d1 ?d2 ?d3 ?d4 ?d5 ?hl ?hI ?hlen ?hd ?hu ?hE ?hQ)); (case c1 => assumption); (case c2 => assumption); (case lt => assumption); (case d1 => assumption); (case d2 => assumption); (case d3 => assumption); (case d4 => assumption); (case d5 => assumption); (case hl => assumption); (case hI => assumption); (case hlen => omega); (case hd => decide +kernel); (case hu => decide +kernel); (case hE => (first | passes_own | with_unfolding_all passes_own)); (case hQ => (intro h9 tk9 m9 n9 F9 N9 G9; refine And.intro ?_ G9; (try dsimp only); k_steps))))
