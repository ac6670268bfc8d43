import PyProof.Rows.All
import Wide.All
import OpenK.AllK
import Wide.FinOn
import Lean
import PySem.Challenge.RW_dm0269_09
open PySem PySem.W PyProof.Rows
set_option Elab.async false
set_option maxRecDepth 100000
set_option linter.all false

section
local macro_rules | `(tactic| omega) => `(tactic| lia)
namespace Mine
open PySem.Builtin.Int (intBits)

/-- the nearest whole number to a / b, ties to even -/
def divN (a b : Int) : Int := a / b + (if b < 2 * (a % b) + a / b % 2 then 1 else 0)

theorem divN_of {a b : Int} (hb : 0 < b) :
    (a.fdiv b + if decide (b < 2 * a.fmod b + Builtin.bitAnd (a.fdiv b) 1) = true then 1 else 0) = divN a b := by
  rw [Int.fdiv_eq_ediv_of_nonneg _ (Int.le_of_lt hb), Int.fmod_eq_emod_of_nonneg _ (Int.le_of_lt hb), bitAnd_m1]
  simp only [decide_eq_true_eq]
  rfl

theorem noPy {a b : Int} {Z : Prop} (h : intBits b ≤ 9000) : Builtin.divisionGoesByPylong a b = false ∨ Z := by
  refine Or.inl (PyProof.noPylong_of_log2 ?_)
  unfold PySem.Builtin.Int.intBits at h
  by_cases hb : (b == 0) = true
  · have : b = 0 := by simpa using hb
    subst this; decide +kernel
  · rw [if_neg hb] at h; omega

/-! the turn of the Newton loop -/
theorem two_pow_pos (n : Nat) : (0 : Int) < 2 ^ n := Int.pow_pos (by decide)

theorem log_of_bits {a : Int} {k : Nat} (h : intBits a ≤ k) (hk : k ≤ 1900 := by decide) : a.natAbs.log2 < 1920 := by
  unfold PySem.Builtin.Int.intBits at h
  by_cases hb : (a == 0) = true
  · have : a = 0 := by simpa using hb
    subst this; decide +kernel
  · rw [if_neg hb] at h; omega

/-- how many signs a number's text has -/
def digs (M : Int) : Int := ((Str.ofString (toString M)).length : Int)

theorem bits_mono {a : Int} {j k : Nat} (h : intBits a ≤ j) (hk : j ≤ k := by decide) : intBits a ≤ k := Nat.le_trans h hk

/-- a size, told under a name of its own -/
structure Bd (k : Nat) (a : Int) : Prop where
  out : intBits a ≤ k
theorem abs_shl {a n : Int} {k : Nat} (h : intBits a ≤ k) (hn : n ≤ 100000) (hk : k ≤ 100000 := by decide) : (intBits (if a < 0 then -a else a) : Int) + n ≤ 2 ^ 27 := by
  have h2 : intBits (if a < 0 then -a else a) ≤ k := by
    split
    · exact intBits_neg_le h
    · exact h
  have e : (2 : Int) ^ 27 = 134217728 := by decide
  omega
theorem shl_ok {a n : Int} {k : Nat} (h : intBits a ≤ k) (hn : n ≤ 100000) (hk : k ≤ 100000 := by decide) : (intBits a : Int) + n ≤ 2 ^ 27 := by
  have e : (2 : Int) ^ 27 = 134217728 := by decide
  omega
/-- the walk stands still before what is so marked -/
structure Stop (p : Prop) : Prop where
  out : p
theorem mul_ok {a b : Int} {j k : Nat} (ha : intBits a ≤ j) (hb : intBits b ≤ k) (h : j + k ≤ 100000 := by decide) : IntMulOk a b := IntMulOk.of_le ha hb (by omega)

/-- how many terms of the series -/
def tOf (M L : Int) : Int := -((-10 * digs M) / (3 * L))
theorem digs_le {M : Int} {k : Nat} (hk : 0 < k) (h : intBits M ≤ k) : digs M ≤ k + 1 := by
  have h1 : M.natAbs.log2 < k := by
    unfold PySem.Builtin.Int.intBits at h
    by_cases hb : (M == 0) = true
    · have : M = 0 := by simpa using hb
      subst this; exact hk
    · rw [if_neg hb] at h; omega
  have h2 := int_text_length_le hk h1
  unfold digs
  rw [PySem.ofString_length]
  omega
theorem digs_nat (n : Nat) : digs (n : Int) = ((Nat.toDigits 10 n).length : Int) := by
  have h1 : (Str.ofString (toString (n : Int))).length = (Nat.toDigits 10 n).length := by
    rw [PySem.ofString_length]
    show (toString (n : Int)).length = _
    rw [show toString (n : Int) = toString n from rfl]
    show (Nat.repr n).length = _
    unfold Nat.repr
    simp
  unfold digs
  rw [h1]
theorem digs_iff {M : Int} (h0 : 0 ≤ M) {k : Nat} (hk : 0 < k) : digs M ≤ k ↔ M < 10 ^ k := by
  obtain ⟨n, rfl⟩ := Int.eq_ofNat_of_zero_le h0
  rw [digs_nat]
  have h2 := Nat.length_toDigits_le_iff (b := 10) (n := n) (by decide) hk
  constructor
  · intro h
    have h3 := h2.mp (by omega)
    exact_mod_cast h3
  · intro h
    have h3 : n < 10 ^ k := by exact_mod_cast h
    have := h2.mpr h3
    omega
theorem digs_pos {M : Int} (h0 : 0 ≤ M) : 0 < digs M := by
  obtain ⟨n, rfl⟩ := Int.eq_ofNat_of_zero_le h0
  rw [digs_nat]
  have := Nat.length_toDigits_pos (b := 10) (n := n)
  omega
theorem tOf_pos {M L : Int} (h0 : 0 ≤ M) (hL : 0 < L) : 0 < tOf M L := by
  have h1 := digs_pos h0
  unfold tOf
  have : (-10 * digs M) / (3 * L) < 0 := Int.ediv_neg_of_neg_of_pos (by omega) (by omega)
  omega
theorem tOf_le {M L : Int} {k : Nat} (hk : 0 < k) (hM : intBits M ≤ k) (hL : 0 < L) : tOf M L ≤ 10 * (k + 1) := by
  have h1 := digs_le hk hM
  unfold tOf
  have : (-10 * ((k : Int) + 1)) ≤ (-10 * digs M) / (3 * L) := by
    rw [Int.le_ediv_iff_mul_le (by omega)]
    have : (-10 * ((k : Int) + 1)) * (3 * L) ≤ (-10 * ((k : Int) + 1)) * 1 := Int.mul_le_mul_of_nonpos_left (by omega) (by omega)
    omega
  omega

section
variable {prog : Program} {w : World} {A : Around} {E : Value → Shared → Prop} {s : Shared}
theorem len_digs {M : Int} {t : Tok} {Q : Value → Shared → Prop} (hM : intBits M ≤ 1000) (h : Q (.int (digs M) (s.toks + 1)) { s with toks := s.toks + 1 + 1 }) : wpAny (model prog w) A (call (.builtin "len") [.str (Str.ofString (toString M)) t]) Q E s := by
  have h1 := digs_le (by decide) hM
  unfold digs at h1
  exact P.len_str (by omega) h
theorem mod_gen {a b : Int} {t u : Tok} {Q : Value → Shared → Prop} (hb : 0 < b) (h : ∀ r, 0 ≤ r → r < b → Q (.int r s.toks) { s with toks := s.toks + 1 }) : wpAny (model prog w) A (binaryOp .Mod (.int a t) (.int b u)) Q E s :=
  mod_int' (by omega) (h _ (Int.fmod_nonneg_of_pos a hb) (Int.fmod_lt_of_pos a hb))
theorem ne_same {a : Int} {t u : Tok} {Q : Value → Shared → Prop} (h : Q (.bool false) s) : wpAny (model prog w) A (compareOp .NotEq (.int a t) (.int a u)) Q E s := ne_int (by simpa using h)
theorem floordiv_pos {a b : Int} {t u : Tok} {Q : Value → Shared → Prop} (hb : 0 < b) (hb2 : intBits b ≤ 9000) (h : Q (.int (a / b) s.toks) { s with toks := s.toks + 1 }) : wpAny (model prog w) A (binaryOp .FloorDiv (.int a t) (.int b u)) Q E s :=
  floordiv_int (by omega) (by rw [Int.fdiv_eq_ediv_of_nonneg _ (Int.le_of_lt hb)]; exact h) (noPy hb2)
end

theorem bits_small {a : Int} {b : Int} (h : 0 < a) (h2 : a ≤ b) (hb : b ≤ 1000000000 := by decide) : intBits a ≤ 9000 := bits_mono (PySem.intBits_le_64 (by omega) (by omega))
/-- the series of _iexp behind j turns -/
def eS (x Ms T : Int) : Nat → Int
  | 0 => divN x T
  | j + 1 => divN (x * (Ms + eS x Ms T j)) (Ms * (T - 1 - (j : Int)))
/-- the doublings of _iexp behind j turns, of R -/
def dS (M : Int) (R : Nat) (y : Int) : Nat → Int
  | 0 => y
  | j + 1 => divN (dS M R y j * (dS M R y j + M * 2 ^ (R - 1 - j + 2))) (M * 2 ^ (R - 1 - j + 2))
def rOf (M x L : Int) : Nat := intBits ((x * 2 ^ L.toNat) / M)
def iexpY (M x L : Int) : Int := eS x (M * 2 ^ rOf M x L) (tOf M L) (tOf M L - 1).toNat
def iexpF (M x L : Int) : Int := M + dS M (rOf M x L) (iexpY M x L) (rOf M x L)

theorem eS_turn {x Ms T k : Int} {pre : List Int} (hk : k = T - 1 - (pre.length : Int)) : divN (x * (Ms + eS x Ms T pre.length)) (Ms * k) = eS x Ms T (pre ++ [k]).length := by
  rw [List.length_append, List.length_singleton, hk]
  rfl
theorem dS_turn {M y k : Int} {R : Nat} {pre : List Int} (hk : k = (R : Int) - 1 - (pre.length : Int)) (hlt : pre.length < R) : divN (dS M R y pre.length * (dS M R y pre.length + M * 2 ^ (k + 2).toNat)) (M * 2 ^ (k + 2).toNat) = dS M R y (pre ++ [k]).length := by
  rw [List.length_append, List.length_singleton]
  have e : (k + 2).toNat = R - 1 - pre.length + 2 := by omega
  rw [e]
  rfl
theorem two_pow_bits (n : Nat) : intBits ((2 : Int) ^ n) ≤ n + 1 := by
  refine intBits_le_iff.mpr ?_
  rw [Int.natAbs_pow]
  exact Nat.pow_lt_pow_right (by decide) (by omega)
theorem shl_bits {M : Int} {k n c : Nat} (hM : intBits M ≤ k) (h : k + n + 1 ≤ c) : intBits (M * 2 ^ n) ≤ c := Nat.le_trans (intBits_mul_le hM (two_pow_bits n)) (by omega)
theorem shl_pos {M : Int} (hM : 0 < M) (n : Nat) : 0 < M * 2 ^ n := Int.mul_pos hM (two_pow_pos n)
theorem iexpY_of {M x L : Int} {n : Nat} (h : n = (tOf M L - 1).toNat) : eS x (M * 2 ^ rOf M x L) (tOf M L) n = iexpY M x L := by
  subst h; rfl
theorem iexpF_of {M x L : Int} {n : Nat} (h : n = rOf M x L) : M + dS M (rOf M x L) (iexpY M x L) n = iexpF M x L := by
  subst h; rfl

theorem gen_int {P : Int → Prop} (v : Int) (h : ∀ x, v = x → P x) : P v := h v rfl

end Mine

namespace Mine
open PySem.Builtin.Int (intBits)

theorem divN_spec {a b : Int} (hb : 0 < b) : -b ≤ 2 * (a - b * divN a b) ∧ 2 * (a - b * divN a b) ≤ b := by
  have h1 := Int.mul_ediv_add_emod a b
  have h2 := Int.emod_nonneg a (by omega : b ≠ 0)
  have h3 := Int.emod_lt_of_pos a hb
  unfold divN
  generalize a / b = q at *
  generalize a % b = r at *
  split
  · have e : b * (q + 1) = b * q + b := by rw [Int.mul_add, Int.mul_one]
    rw [e]
    omega
  · have e : b * (q + 0) = b * q := by rw [Int.add_zero]
    rw [e]
    omega

theorem divN_le {a b c : Int} (hb : 0 < b) (h : 2 * a < b * (2 * c + 1)) : divN a b ≤ c := by
  have h1 := (divN_spec (a := a) hb).1
  generalize divN a b = q at *
  rcases Int.lt_or_le c q with h2 | h2
  · have := Int.mul_le_mul_of_nonneg_left (show c + 1 ≤ q by omega) (Int.le_of_lt hb)
    grind
  · exact h2

theorem le_divN {a b c : Int} (hb : 0 < b) (h : b * (2 * c - 1) < 2 * a) : c ≤ divN a b := by
  have h1 := (divN_spec (a := a) hb).2
  generalize divN a b = q at *
  rcases Int.lt_or_le q c with h2 | h2
  · have := Int.mul_le_mul_of_nonneg_left (show q ≤ c - 1 by omega) (Int.le_of_lt hb)
    grind
  · exact h2

theorem divN_le' {a b c : Int} (hb : 0 < b) (h : a ≤ b * c) : divN a b ≤ c := divN_le hb (by grind)
theorem le_divN' {a b c : Int} (hb : 0 < b) (h : b * c ≤ a) : c ≤ divN a b := le_divN hb (by grind)
termination_by n => n

theorem bits_abs {a b : Int} {k : Nat} (h1 : -b ≤ a) (h2 : a ≤ b) (hb : intBits b ≤ k) : intBits a ≤ k :=
  intBits_le_of_natAbs (y := b) (by omega) hb
theorem bits_lt {a : Int} {k : Nat} (h1 : -(2 ^ k) < a) (h2 : a < 2 ^ k) : intBits a ≤ k := by
  refine intBits_le_iff.mpr ?_
  have e : ((2 ^ k : Nat) : Int) = 2 ^ k := Int.natCast_pow 2 k
  omega
end Mine

namespace Mine
open PySem.Builtin.Int (intBits)

/-- a nearest quotient is no further from nought than what is divided -/
theorem divN_small {a b c : Int} (hb : 0 < b) (h1 : -c ≤ a) (h2 : a ≤ c) : -c ≤ divN a b ∧ divN a b ≤ c := by
  have hc : 0 ≤ c := by omega
  have e : c ≤ b * c := by
    have := Int.mul_le_mul_of_nonneg_right (show 1 ≤ b by omega) hc
    omega
  constructor
  · refine le_divN' hb ?_
    have : b * -c = -(b * c) := Int.mul_neg b c
    omega
  · exact divN_le' hb (by omega)

theorem mul_abs {a b A B : Int} (a1 : -A ≤ a) (a2 : a ≤ A) (b1 : -B ≤ b) (b2 : b ≤ B) : -(A * B) ≤ a * b ∧ a * b ≤ A * B := by
  have h1 := Int.mul_nonneg (show 0 ≤ A - a by omega) (show 0 ≤ B + b by omega)
  have h2 := Int.mul_nonneg (show 0 ≤ A + a by omega) (show 0 ≤ B - b by omega)
  have h3 := Int.mul_nonneg (show 0 ≤ A - a by omega) (show 0 ≤ B - b by omega)
  have h4 := Int.mul_nonneg (show 0 ≤ A + a by omega) (show 0 ≤ B + b by omega)
  constructor <;> grind

theorem divN_abs {a b c : Int} (hb : 0 < b) (h1 : -(c * b) ≤ a) (h2 : a ≤ c * b) : -c ≤ divN a b ∧ divN a b ≤ c :=
  ⟨le_divN' hb (by grind), divN_le' hb (by grind)⟩

/-! _iexp, a distance below the root -/
theorem eS_succ {x Ms T : Int} {j : Nat} : eS x Ms T (j + 1) = divN (x * (Ms + eS x Ms T j)) (Ms * (T - 1 - (j : Int))) := rfl

/-- no sum is further from nought than x, with x * x less than the scale -/
theorem eS_le {x Ms T c : Int} (x1 : -c ≤ x) (x2 : x ≤ c) (hx : c ≤ Ms) (hMs : 0 < Ms) (hT : 1 ≤ T) : ∀ j : Nat, (j : Int) + 2 ≤ T ∨ j = 0 → -c ≤ eS x Ms T j ∧ eS x Ms T j ≤ c
  | 0, _ => divN_small (by omega) x1 x2
  | j + 1, hj => by
    obtain ⟨e1, e2⟩ := eS_le x1 x2 hx hMs hT j (by omega)
    have hc : 0 ≤ c := by omega
    rw [eS_succ]
    generalize eS x Ms T j = y at *
    have hi : 2 ≤ T - 1 - (j : Int) := by omega
    generalize T - 1 - (j : Int) = i at *
    obtain ⟨m1, m2⟩ := mul_abs x1 x2 e1 e2
    have p1 := Int.mul_le_mul_of_nonneg_right x1 (Int.le_of_lt hMs)
    have p2 := Int.mul_le_mul_of_nonneg_right x2 (Int.le_of_lt hMs)
    have p3 := Int.mul_le_mul_of_nonneg_left hx hc
    have p4 := Int.mul_le_mul_of_nonneg_left hi (Int.mul_nonneg hc (Int.le_of_lt hMs))
    exact divN_abs (Int.mul_pos hMs (by omega)) (by grind) (by grind)

theorem dS_succ {M y : Int} {R j : Nat} : dS M R y (j + 1) = divN (dS M R y j * (dS M R y j + M * 2 ^ (R - 1 - j + 2))) (M * 2 ^ (R - 1 - j + 2)) := rfl
theorem two_pow_ge1 (n : Nat) : (1 : Int) ≤ 2 ^ n := two_pow_pos n
/-! without a halving: distances from the root to half as much again -/
end Mine

namespace Mine
namespace Ex

theorem sq_nonneg (a : Rat) : 0 ≤ a * a := by
  rcases Rat.le_total (a := 0) (b := a) with h | h
  · exact Rat.mul_nonneg h h
  · have := Rat.mul_nonneg (show 0 ≤ -a by grind) (show 0 ≤ -a by grind)
    grind

theorem lt_of_not_le {a b : Rat} (h : ¬ a ≤ b) : b < a := Rat.not_le.mp h
theorem le_div {a b c : Rat} (hc : 0 < c) (h : a * c ≤ b) : a ≤ b / c := by
  have e : b / c * c = b := Rat.div_mul_cancel (by grind)
  rcases Classical.em (a ≤ b / c) with x | x
  · exact x
  · have := Rat.mul_lt_mul_of_pos_right (lt_of_not_le x) hc
    grind
theorem div_le {a b c : Rat} (hc : 0 < c) (h : b ≤ a * c) : b / c ≤ a := by
  have e : b / c * c = b := Rat.div_mul_cancel (by grind)
  rcases Classical.em (b / c ≤ a) with x | x
  · exact x
  · have := Rat.mul_lt_mul_of_pos_right (lt_of_not_le x) hc
    grind
theorem le_div_mul {a b c : Rat} (hc : 0 < c) (h : a ≤ b / c) : a * c ≤ b := by
  have e : b / c * c = b := Rat.div_mul_cancel (by grind)
  have := Rat.mul_le_mul_of_nonneg_right h (Rat.le_of_lt hc)
  grind
theorem div_le_mul {a b c : Rat} (hc : 0 < c) (h : b / c ≤ a) : b ≤ a * c := by
  have e : b / c * c = b := Rat.div_mul_cancel (by grind)
  have := Rat.mul_le_mul_of_nonneg_right h (Rat.le_of_lt hc)
  grind
theorem div_mono {a b p : Rat} (hp : 0 < p) (h : a ≤ b) : a / p ≤ b / p := by
  refine div_le hp ?_
  have e : b / p * p = b := Rat.div_mul_cancel (by grind)
  rw [e]
  exact h
theorem div_pos {a b : Rat} (ha : 0 < a) (hb : 0 < b) : 0 < a / b := by
  have := Rat.mul_pos ha (Rat.inv_pos.mpr hb)
  grind
theorem div_nn {a b : Rat} (ha : 0 ≤ a) (hb : 0 < b) : 0 ≤ a / b := le_div hb (by grind)

/-- u to the power 2 ^ n, by squaring -/
def sq : Nat → Rat → Rat
  | 0, u => u
  | n + 1, u => sq n (u * u)

theorem sq_mul (u v : Rat) : ∀ n, sq n (u * v) = sq n u * sq n v := by
  intro n
  induction n generalizing u v with
  | zero => rfl
  | succ n ih =>
    show sq n (u * v * (u * v)) = sq n (u * u) * sq n (v * v)
    rw [← ih]
    congr 1
    grind
theorem sq_one : ∀ n, sq n 1 = 1
  | 0 => rfl
  | n + 1 => by show sq n (1 * 1) = 1; rw [Rat.mul_one]; exact sq_one n
theorem sq_le {u v : Rat} (h0 : 0 ≤ u) (h : u ≤ v) : ∀ n, sq n u ≤ sq n v := by
  intro n
  induction n generalizing u v with
  | zero => exact h
  | succ n ih =>
    refine ih (sq_nonneg u) ?_
    have h1 := Rat.mul_le_mul_of_nonneg_left h h0
    have h2 := Rat.mul_le_mul_of_nonneg_right h (show 0 ≤ v by grind)
    grind
theorem sq_pos {u : Rat} (h : 0 < u) : ∀ n, 0 < sq n u := by
  intro n
  induction n generalizing u with
  | zero => exact h
  | succ n ih => exact ih (Rat.mul_pos h h)
theorem sq_nn {u : Rat} (h : 0 ≤ u) (n : Nat) : 0 ≤ sq n u := by
  have := sq_le (u := 0) (by grind) h n
  have e : ∀ n, sq n 0 = 0 := by
    intro n
    induction n with
    | zero => rfl
    | succ n ih => show sq n (0 * 0) = 0; rw [Rat.zero_mul]; exact ih
  rw [e] at this
  exact this

/-- two to the n, as a rational -/
def P (n : Nat) : Rat := 2 ^ n
theorem P_zero : P 0 = 1 := by unfold P; grind
theorem P_succ (n : Nat) : P (n + 1) = 2 * P n := by unfold P; grind
theorem P_pos : ∀ n, 0 < P n
  | 0 => by rw [P_zero]; decide
  | n + 1 => by rw [P_succ]; have := P_pos n; grind
theorem P_ge : ∀ n : Nat, ((n : Nat) : Rat) + 1 ≤ P n
  | 0 => by rw [P_zero]; grind
  | n + 1 => by
    rw [P_succ]
    have h := P_ge n
    have h2 := P_pos n
    have e : ((n + 1 : Nat) : Rat) = (n : Rat) + 1 := by grind
    rw [e]
    rcases Nat.eq_zero_or_pos n with h0 | h0
    · subst h0; rw [P_zero] at *; grind
    · have : (1 : Rat) ≤ (n : Rat) := by exact_mod_cast h0
      grind
theorem P_mono {m n : Nat} (h : m ≤ n) : P m ≤ P n := by
  obtain ⟨k, rfl⟩ := Nat.le.dest h
  induction k with
  | zero => exact Rat.le_refl
  | succ k ih =>
    have := ih (by omega)
    have := P_pos (m + k)
    have e := P_succ (m + k)
    have e2 : m + (k + 1) = m + k + 1 := by omega
    rw [e2, e]
    grind

theorem arch (q : Rat) : ∃ n : Nat, q < (n : Rat) := by
  refine ⟨(q.ceil + 1).toNat, ?_⟩
  have h1 : q ≤ (q.ceil : Rat) := Rat.le_ceil
  have h2 : q.ceil < (((q.ceil + 1).toNat : Nat) : Int) := by omega
  have h3 : ((q.ceil : Int) : Rat) < ((((q.ceil + 1).toNat : Nat) : Int) : Rat) := by exact_mod_cast h2
  have h4 : ((((q.ceil + 1).toNat : Nat) : Int) : Rat) = (((q.ceil + 1).toNat : Nat) : Rat) := by norm_cast
  grind
theorem archP (q : Rat) : ∃ n : Nat, ∀ m, n ≤ m → q < P m := by
  obtain ⟨n, hn⟩ := arch q
  refine ⟨n, fun m hm => ?_⟩
  have h1 := P_ge n
  have h2 := P_mono hm
  grind
/-- no more than c, if so but for any small part -/
theorem le_of_all {a c B : Rat} (h : ∃ n : Nat, ∀ m, n ≤ m → a ≤ c + B / P m) : a ≤ c := by
  rcases Rat.le_total (a := a) (b := c) with h1 | h1
  · exact h1
  · rcases Classical.em (a = c) with e | e
    · rw [e]; exact Rat.le_refl
    · exfalso
      have hd : 0 < a - c := by
        have := Rat.lt_of_le_of_ne h1 (fun x => e x.symm)
        grind
      obtain ⟨n, hn⟩ := h
      obtain ⟨k, hk⟩ := archP (B / (a - c))
      have h2 := hn (max n k) (by omega)
      have h3 := hk (max n k) (by omega)
      have hp := P_pos (max n k)
      generalize P (max n k) = p at *
      have e1 : B / (a - c) * (a - c) = B := Rat.div_mul_cancel (by grind)
      have e2 : B / p * p = B := Rat.div_mul_cancel (by grind)
      have h4 := Rat.mul_lt_mul_of_pos_right h3 hd
      have h5 := Rat.mul_le_mul_of_nonneg_right (show a - c ≤ B / p by grind) (Rat.le_of_lt hp)
      grind

end Ex
end Mine

namespace Mine
namespace Ex

/-- Bernoulli -/
theorem bern (u : Rat) : ∀ n, 1 + P n * (u - 1) ≤ sq n u := by
  intro n
  induction n generalizing u with
  | zero => rw [P_zero]; show 1 + 1 * (u - 1) ≤ u; grind
  | succ n ih =>
    have h := ih (u * u)
    have h2 := sq_nonneg (u - 1)
    have h3 := Rat.mul_le_mul_of_nonneg_left (show 2 * (u - 1) ≤ u * u - 1 by grind) (Rat.le_of_lt (P_pos n))
    show 1 + P (n + 1) * (u - 1) ≤ sq n (u * u)
    rw [P_succ]
    grind

/-- interest on interest, at 2 ^ n parts -/
def ap (q : Rat) (n : Nat) : Rat := sq n (1 + q / P n)
def Ok (q : Rat) (n : Nat) : Prop := 0 ≤ 1 + q / P n

theorem div_P_succ (q : Rat) (n : Nat) : q / P (n + 1) = q / P n / 2 := by
  rw [P_succ]
  have := P_pos n
  grind
theorem ok_succ {q : Rat} {n : Nat} (h : Ok q n) : Ok q (n + 1) := by
  unfold Ok at *
  rw [div_P_succ]
  grind
theorem ok_mono {q : Rat} {m n : Nat} (h : Ok q m) (hm : m ≤ n) : Ok q n := by
  obtain ⟨k, rfl⟩ := Nat.le.dest hm
  induction k with
  | zero => exact h
  | succ k ih => exact ok_succ (ih (by omega))
theorem ap_succ {q : Rat} {n : Nat} (h : Ok q n) : ap q n ≤ ap q (n + 1) := by
  unfold ap
  show sq n (1 + q / P n) ≤ sq n ((1 + q / P (n + 1)) * (1 + q / P (n + 1)))
  refine sq_le h ?_ n
  rw [div_P_succ]
  have := sq_nonneg (q / P n / 2)
  grind
theorem ap_mono {q : Rat} {m n : Nat} (h : Ok q m) (hm : m ≤ n) : ap q m ≤ ap q n := by
  obtain ⟨k, rfl⟩ := Nat.le.dest hm
  induction k with
  | zero => exact Rat.le_refl
  | succ k ih => exact Rat.le_trans (ih (by omega)) (ap_succ (ok_mono h (by omega)))
/-- from some n on q is less than a small part of 2 ^ n -/
theorem small (q : Rat) {e : Rat} (he : 0 < e) : ∃ n : Nat, ∀ m, n ≤ m → -e < q / P m ∧ q / P m < e := by
  obtain ⟨a, ha⟩ := archP (q / e)
  obtain ⟨b, hb⟩ := archP (-q / e)
  refine ⟨max a b, fun m hm => ?_⟩
  have h1 := ha m (by omega)
  have h2 := hb m (by omega)
  have hp := P_pos m
  generalize P m = p at *
  have e1 : q / e * e = q := Rat.div_mul_cancel (by grind)
  have e2 : -q / e * e = -q := Rat.div_mul_cancel (by grind)
  have e3 : q / p * p = q := Rat.div_mul_cancel (by grind)
  have k1 := Rat.mul_lt_mul_of_pos_right h1 he
  have k2 := Rat.mul_lt_mul_of_pos_right h2 he
  constructor
  · rcases Rat.le_total (a := q / p) (b := -e) with h | h
    · have := Rat.mul_le_mul_of_nonneg_right h (Rat.le_of_lt hp)
      grind
    · rcases Classical.em (q / p = -e) with x | x
      · rw [x] at e3; grind
      · exact Rat.lt_of_le_of_ne h (fun y => x y.symm)
  · rcases Rat.le_total (a := e) (b := q / p) with h | h
    · have := Rat.mul_le_mul_of_nonneg_right h (Rat.le_of_lt hp)
      grind
    · rcases Classical.em (q / p = e) with x | x
      · rw [x] at e3; grind
      · exact Rat.lt_of_le_of_ne h x

/-- exp q is no more than b -/
def EL (q b : Rat) : Prop := ∀ n, Ok q n → ap q n ≤ b
/-- exp q is no less than b -/
def EG (q b : Rat) : Prop := ∀ c, EL q c → b ≤ c

theorem ok_ex (q : Rat) : ∃ n, ∀ m, n ≤ m → Ok q m ∧ 0 < 1 + q / P m := by
  obtain ⟨n, hn⟩ := small q (e := 1) (by decide)
  refine ⟨n, fun m hm => ?_⟩
  have := hn m hm
  unfold Ok
  grind
theorem ap_ge {q : Rat} {n : Nat} : 1 + q ≤ ap q n := by
  have h := bern (1 + q / P n) n
  have hp := P_pos n
  have e : P n * (1 + q / P n - 1) = q := by grind
  unfold ap
  rw [e] at h
  exact h
theorem EL.pos {q b : Rat} (h : EL q b) : 0 < b := by
  obtain ⟨n, hn⟩ := ok_ex q
  obtain ⟨h1, h2⟩ := hn n (Nat.le_refl n)
  have := h n h1
  have := sq_pos h2 n
  unfold ap at *
  grind
theorem EG.le {q a b : Rat} (h : EG q a) (h2 : EL q b) : a ≤ b := h b h2
theorem EL.mono {q b c : Rat} (h : EL q b) (hc : b ≤ c) : EL q c := fun n hn => Rat.le_trans (h n hn) hc
theorem EG.mono {q b c : Rat} (h : EG q b) (hc : c ≤ b) : EG q c := fun d hd => Rat.le_trans hc (h d hd)
theorem EG.one_add (q : Rat) : EG q (1 + q) := fun c hc => by
  obtain ⟨n, hn⟩ := ok_ex q
  exact Rat.le_trans ap_ge (hc n (hn n (Nat.le_refl n)).1)

theorem ap_neg {q : Rat} {n : Nat} (h1 : Ok q n) (h2 : Ok (-q) n) : ap q n * ap (-q) n ≤ 1 := by
  unfold ap Ok at *
  rw [← sq_mul]
  have h3 := Rat.mul_nonneg h1 h2
  have h4 := sq_nonneg (q / P n)
  have := sq_le h3 (show (1 + q / P n) * (1 + -q / P n) ≤ 1 by
    have e : -q / P n = -(q / P n) := by grind
    rw [e]; grind) n
  rwa [sq_one] at this
theorem ap_neg2 {q : Rat} {m n : Nat} (h1 : Ok q m) (h2 : Ok (-q) n) : ap q m * ap (-q) n ≤ 1 := by
  have a1 := ap_mono h1 (show m ≤ max m n by omega)
  have a2 := ap_mono h2 (show n ≤ max m n by omega)
  have a3 := ap_neg (ok_mono h1 (show m ≤ max m n by omega)) (ok_mono h2 (show n ≤ max m n by omega))
  have b1 : 0 ≤ ap q m := sq_nn h1 m
  have b2 : 0 ≤ ap (-q) n := sq_nn h2 n
  have c1 := Rat.mul_le_mul_of_nonneg_right a1 b2
  have c2 := Rat.mul_le_mul_of_nonneg_left a2 (show 0 ≤ ap q (max m n) by grind)
  grind
/-- from below to above -/
theorem EG.neg {q c : Rat} (h : EG q c) (hc : 0 < c) : EL (-q) (1 / c) := fun n hn => by
  have b0 : 0 ≤ ap (-q) n := sq_nn hn n
  refine le_div hc ?_
  rcases Classical.em (ap (-q) n = 0) with e | e
  · rw [e]; grind
  · have b1 : 0 < ap (-q) n := Rat.lt_of_le_of_ne b0 (fun x => e x.symm)
    have h1 : EL q (1 / ap (-q) n) := fun m hm => le_div b1 (ap_neg2 hm hn)
    have h2 := le_div_mul b1 (h _ h1)
    grind
/-- from above to below -/
theorem EL.neg {q b : Rat} (h : EL q b) : EG (-q) (1 / b) := fun c hc => by
  have hb := h.pos
  refine div_le hb ?_
  have hc0 := hc.pos
  obtain ⟨n1, h1⟩ := ok_ex q
  obtain ⟨n2, h2⟩ := ok_ex (-q)
  refine le_of_all (B := q * q) ⟨max n1 n2, fun m hm => ?_⟩
  obtain ⟨o1, p1⟩ := h1 m (by omega)
  obtain ⟨o2, p2⟩ := h2 m (by omega)
  have a1 := h m o1
  have a2 := hc m o2
  have b1 : 0 ≤ ap q m := sq_nn o1 m
  have b2 : 0 ≤ ap (-q) m := sq_nn o2 m
  have hp := P_pos m
  have k : 1 - q * q / P m ≤ ap q m * ap (-q) m := by
    unfold ap
    rw [← sq_mul]
    have := bern ((1 + q / P m) * (1 + -q / P m)) m
    have e : P m * ((1 + q / P m) * (1 + -q / P m) - 1) = -(q * q / P m) := by grind
    rw [e] at this
    grind
  have c1 := Rat.mul_le_mul_of_nonneg_right a1 b2
  have c2 := Rat.mul_le_mul_of_nonneg_left a2 (Rat.le_of_lt hb)
  grind

theorem sq_up {s : Rat} (h0 : 0 ≤ s) {n : Nat} (h : P n * s < 1) : sq n (1 + s) * (1 - P n * s) ≤ 1 := by
  have hp := P_pos n
  have hs : s < 1 := by
    have h1 : (1 : Rat) ≤ P n := by have := P_mono (Nat.zero_le n); rwa [P_zero] at this
    have := Rat.mul_le_mul_of_nonneg_right h1 h0
    grind
  have h1 := bern (1 - s) n
  have h2 : sq n (1 + s) * sq n (1 - s) ≤ 1 := by
    rw [← sq_mul]
    have h3 := sq_nonneg s
    have := sq_le (u := (1 + s) * (1 - s)) (v := 1) (Rat.mul_nonneg (by grind) (by grind)) (by grind) n
    rwa [sq_one] at this
  have h4 : 0 ≤ sq n (1 + s) := sq_nn (by grind) n
  have h5 := Rat.mul_le_mul_of_nonneg_left (show 1 - P n * s ≤ sq n (1 - s) by grind) h4
  grind

theorem EL.add {q r b c : Rat} (h1 : EL q b) (h2 : EL r c) : EL (q + r) (b * c) := fun n hn => by
  have hb := h1.pos
  have hc := h2.pos
  obtain ⟨n1, k1⟩ := small q (e := 1 / 4) (by grind)
  obtain ⟨n2, k2⟩ := small r (e := 1 / 4) (by grind)
  obtain ⟨n3, k3⟩ := ok_ex (q + r)
  -- the size of the cross term
  obtain ⟨D, hD0, hD1, hD2⟩ : ∃ D : Rat, 0 ≤ D ∧ q * r ≤ D ∧ -(q * r) ≤ D := by
    rcases Rat.le_total (a := 0) (b := q * r) with h | h
    · exact ⟨q * r, h, Rat.le_refl, by grind⟩
    · exact ⟨-(q * r), by grind, by grind, Rat.le_refl⟩
  obtain ⟨n4, k4⟩ := archP (2 * D)
  refine le_of_all (B := 2 * D * ap (q + r) n) ⟨max (max n1 n2) (max (max n3 n4) n), fun m hm => ?_⟩
  obtain ⟨q1, q2⟩ := k1 m (by omega)
  obtain ⟨r1, r2⟩ := k2 m (by omega)
  obtain ⟨o3, p3⟩ := k3 m (by omega)
  have d4 := k4 m (by omega)
  have hp := P_pos m
  have hmono := ap_mono hn (show n ≤ m by omega)
  have oq : Ok q m := by unfold Ok; grind
  have or' : Ok r m := by unfold Ok; grind
  have a1 := h1 m oq
  have a2 := h2 m or'
  have hs0 : 0 ≤ 2 * D / P m / P m := div_nn (div_nn (by grind) hp) hp
  have hs1 : P m * (2 * D / P m / P m) = 2 * D / P m := by grind
  have hs2 : 2 * D / P m < 1 := by
    rcases Classical.em (2 * D / P m < 1) with x | x
    · exact x
    · have := le_div_mul hp (Rat.not_lt.mp x)
      grind
  have up := sq_up hs0 (n := m) (by rw [hs1]; exact hs2)
  rw [hs1] at up
  generalize hs : 2 * D / P m / P m = s at *
  -- v ≤ u (1 + s)
  have hu : (1 : Rat) / 2 ≤ (1 + q / P m) * (1 + r / P m) := by
    have := Rat.mul_le_mul_of_nonneg_left (show (3 : Rat) / 4 ≤ 1 + r / P m by grind) (show 0 ≤ 1 + q / P m by grind)
    grind
  have hv : 1 + (q + r) / P m ≤ (1 + q / P m) * (1 + r / P m) * (1 + s) := by
    have t1 := Rat.mul_le_mul_of_nonneg_right hu hs0
    have t2 : -(q * r) / P m / P m ≤ D / P m / P m := div_mono hp (div_mono hp hD2)
    have t3 : D / P m / P m = s / 2 := by rw [← hs]; grind
    have t4 : 1 + (q + r) / P m = (1 + q / P m) * (1 + r / P m) + -(q * r) / P m / P m := by grind
    rw [t4]
    grind
  have b1 : ap (q + r) m ≤ ap q m * ap r m * sq m (1 + s) := by
    have := sq_le o3 hv m
    rw [sq_mul, sq_mul] at this
    exact this
  have x1 : 0 ≤ ap q m := sq_nn oq m
  have x2 : 0 ≤ ap r m := sq_nn or' m
  have x3 : 0 ≤ sq m (1 + s) := sq_nn (by grind) m
  have c1 := Rat.mul_le_mul_of_nonneg_right a1 x2
  have c2 := Rat.mul_le_mul_of_nonneg_left a2 (Rat.le_of_lt hb)
  have c3 := Rat.mul_le_mul_of_nonneg_right (show ap q m * ap r m ≤ b * c by grind) x3
  have c4 : ap (q + r) m ≤ b * c * sq m (1 + s) := Rat.le_trans b1 c3
  have c5 := Rat.mul_le_mul_of_nonneg_right c4 (show 0 ≤ 1 - 2 * D / P m by grind)
  have c6 := Rat.mul_le_mul_of_nonneg_left up (Rat.le_of_lt (Rat.mul_pos hb hc))
  have c7 := Rat.mul_le_mul_of_nonneg_right hmono (show 0 ≤ 1 - 2 * D / P m by grind)
  have e : 2 * D * ap (q + r) n / P m = ap (q + r) n * (2 * D / P m) := by grind
  rw [e]
  grind

theorem EG.add {q r b c : Rat} (h1 : EG q b) (h2 : EG r c) (hc : 0 < c) : EG (q + r) (b * c) := fun d hd => by
  have h3 := EL.add hd (h2.neg hc)
  have e : q + r + -r = q := by grind
  rw [e] at h3
  have := h1 _ h3
  have e2 : d * (1 / c) = d / c := by grind
  rw [e2] at this
  exact le_div_mul hc this

theorem ap_q_mono {q r : Rat} (h : q ≤ r) {n : Nat} (hn : Ok q n) : ap q n ≤ ap r n := by
  refine sq_le hn ?_ n
  have hp := P_pos n
  have : q / P n ≤ r / P n := div_mono hp h
  grind
theorem EL.exp_mono {q r b : Rat} (h : EL r b) (hq : q ≤ r) : EL q b := fun n hn => by
  have hp := P_pos n
  have : q / P n ≤ r / P n := div_mono hp hq
  exact Rat.le_trans (ap_q_mono hq hn) (h n (by unfold Ok at *; grind))
theorem EG.exp_mono {q r b : Rat} (h : EG q b) (hq : q ≤ r) : EG r b := fun c hc => h c (hc.exp_mono hq)
theorem EL.zero : EL 0 1 := fun n _ => by
  unfold ap
  have e : (1 : Rat) + 0 / P n = 1 := by have := P_pos n; grind
  rw [e, sq_one]
  exact Rat.le_refl
theorem EG.zero : EG 0 1 := by have := EG.one_add 0; rwa [Rat.add_zero] at this
theorem EL.inv {x : Rat} (h : x < 1) : EL x (1 / (1 - x)) := by
  have h1 := EG.one_add (-x)
  have h2 := EG.neg h1 (by grind)
  have e : - -x = x := by grind
  have e2 : 1 + -x = 1 - x := by grind
  rwa [e, e2] at h2
/-- closing -/
theorem EL.of_all {q b B : Rat} (h : ∃ n : Nat, ∀ m, n ≤ m → EL q (b + B / P m)) : EL q b := fun k hk => by
  obtain ⟨n, hn⟩ := h
  exact le_of_all ⟨n, fun m hm => hn m hm k hk⟩
theorem EG.of_all {q b B : Rat} (h : ∃ n : Nat, ∀ m, n ≤ m → EG q (b - B / P m)) : EG q b := fun c hc => by
  obtain ⟨n, hn⟩ := h
  refine le_of_all (B := B) ⟨n, fun m hm => ?_⟩
  have := hn m hm c hc
  grind
theorem EL.quad {x : Rat} (h : x ≤ 1 / 2) : EL x (1 + x + 2 * (x * x)) := by
  refine (EL.inv (by grind)).mono (div_le (by grind) ?_)
  have := sq_nonneg x
  have := Rat.mul_le_mul_of_nonneg_right (show 0 ≤ 1 - 2 * x by grind) this
  grind

end Ex
end Mine

namespace Mine
namespace Ex

theorem pow_up {s : Rat} (h0 : 0 ≤ s) : ∀ n : Nat, (1 + s) ^ n * (1 - (n : Rat) * s) ≤ 1
  | 0 => by
    have e : ((0 : Nat) : Rat) = 0 := rfl
    rw [Rat.pow_zero, e]; grind
  | n + 1 => by
    have ih := pow_up h0 n
    have e : ((n + 1 : Nat) : Rat) = (n : Rat) + 1 := by grind
    rw [Rat.pow_succ, e]
    have hn : (0 : Rat) ≤ (n : Rat) := by exact_mod_cast Nat.zero_le n
    have hp : 0 < (1 + s) ^ n := Rat.pow_pos (by grind)
    generalize (1 + s) ^ n = u at *
    generalize (n : Rat) = k at *
    have h1 := Rat.mul_nonneg h0 h0
    have h2 := Rat.mul_nonneg (Rat.mul_nonneg hn h1) (Rat.le_of_lt hp)
    have h3 := Rat.mul_nonneg h1 (Rat.le_of_lt hp)
    grind
theorem pow_dn {s : Rat} (h0 : 0 ≤ s) (h1 : s ≤ 1) : ∀ n : Nat, 1 - (n : Rat) * s ≤ (1 - s) ^ n
  | 0 => by
    have e : ((0 : Nat) : Rat) = 0 := rfl
    rw [Rat.pow_zero, e]; grind
  | n + 1 => by
    have ih := pow_dn h0 h1 n
    have e : ((n + 1 : Nat) : Rat) = (n : Rat) + 1 := by grind
    rw [Rat.pow_succ, e]
    have hn : (0 : Rat) ≤ (n : Rat) := by exact_mod_cast Nat.zero_le n
    have h2 := Rat.mul_le_mul_of_nonneg_right ih (show 0 ≤ 1 - s by grind)
    have h3 := Rat.mul_nonneg hn (Rat.mul_nonneg h0 h0)
    generalize (1 - s) ^ n = u at *
    generalize (n : Rat) = k at *
    grind
theorem pow_nn {u : Rat} (h : 0 ≤ u) (n : Nat) : 0 ≤ u ^ n := by
  induction n with
  | zero => rw [Rat.pow_zero]; decide
  | succ n ih => rw [Rat.pow_succ]; exact Rat.mul_nonneg ih h
theorem P_cast (n : Nat) : P n = ((2 ^ n : Nat) : Rat) := by
  induction n with
  | zero => rw [P_zero]; rfl
  | succ n ih =>
    rw [P_succ, ih, Nat.pow_succ]
    have : ((2 ^ n * 2 : Nat) : Rat) = ((2 ^ n : Nat) : Rat) * 2 := by grind
    rw [this]; grind

theorem div_self1 {x : Rat} (h : 0 < x) : x / x * 1 = 1 := by grind
theorem tele {a b c u v : Rat} (ha : 0 < a) (hc : 0 < c) : a / c * u * (b / a * v) = b / c * (u * v) := by grind
theorem tele2 (a b c : Rat) : a - c + (b - a) = b - c := by grind
theorem sub_self' (a : Rat) : a - a = 0 := by grind

/-- f has the slope f' on 0 .. X, but for a square of the way; all bounded -/
structure Sm (X B C : Rat) (f f' : Rat → Rat) : Prop where
  b0 : 0 ≤ B
  c0 : 0 ≤ C
  lo : ∀ t, 0 ≤ t → t ≤ X → -B ≤ f t
  hi : ∀ t, 0 ≤ t → t ≤ X → f t ≤ B
  lo' : ∀ t, 0 ≤ t → t ≤ X → -B ≤ f' t
  hi' : ∀ t, 0 ≤ t → t ≤ X → f' t ≤ B
  dn : ∀ t h, 0 ≤ t → 0 ≤ h → t + h ≤ X → f t + h * f' t - C * (h * h) ≤ f (t + h)
  up : ∀ t h, 0 ≤ t → 0 ≤ h → t + h ≤ X → f (t + h) ≤ f t + h * f' t + C * (h * h)

theorem step_sum {X h : Rat} {i : Nat} (h0 : 0 ≤ h) (hi : ((i + 1 : Nat) : Rat) * h ≤ X) : 0 ≤ (i : Rat) * h ∧ (i : Rat) * h + h ≤ X ∧ (i : Rat) * h + h = ((i + 1 : Nat) : Rat) * h := by
  have e : ((i + 1 : Nat) : Rat) = (i : Rat) + 1 := by grind
  have hn : (0 : Rat) ≤ (i : Rat) := by exact_mod_cast Nat.zero_le i
  have h1 := Rat.mul_nonneg hn h0
  rw [e] at *
  refine ⟨h1, by grind, by grind⟩

theorem up_steps {X h D : Rat} {f g : Rat → Rat} (h0 : 0 ≤ h) (hD : 0 ≤ D) (hg : ∀ t, 0 ≤ t → t ≤ X → 0 < g t)
    (st : ∀ t, 0 ≤ t → t + h ≤ X → EL (f (t + h) - f t) (g (t + h) / g t * (1 + D * (h * h)))) (hX : 0 ≤ X) :
    ∀ i : Nat, (i : Rat) * h ≤ X → EL (f ((i : Rat) * h) - f 0) (g ((i : Rat) * h) / g 0 * (1 + D * (h * h)) ^ i)
  | 0, _ => by
    have e : ((0 : Nat) : Rat) * h = 0 := by have : ((0 : Nat) : Rat) = 0 := rfl; rw [this]; grind
    rw [e, Rat.pow_zero]
    have hp := hg 0 Rat.le_refl hX
    rw [sub_self', div_self1 hp]
    exact EL.zero
  | i + 1, hi => by
    obtain ⟨s1, s2, s3⟩ := step_sum h0 hi
    have ih := up_steps h0 hD hg st hX i (by grind)
    have k := st ((i : Rat) * h) s1 s2
    rw [s3] at k
    have r := EL.add ih k
    have p0 := hg 0 Rat.le_refl hX
    have p1 := hg ((i : Rat) * h) s1 (by grind)
    generalize ((i + 1 : Nat) : Rat) * h = b at *
    generalize (i : Rat) * h = a at *
    rw [tele2, tele p1 p0, ← Rat.pow_succ] at r
    exact r

theorem dn_steps {X h D : Rat} {f g : Rat → Rat} (h0 : 0 ≤ h) (hD : 0 < 1 - D * (h * h)) (hg : ∀ t, 0 ≤ t → t ≤ X → 0 < g t)
    (st : ∀ t, 0 ≤ t → t + h ≤ X → EG (f (t + h) - f t) (g (t + h) / g t * (1 - D * (h * h)))) (hX : 0 ≤ X) :
    ∀ i : Nat, (i : Rat) * h ≤ X → EG (f ((i : Rat) * h) - f 0) (g ((i : Rat) * h) / g 0 * (1 - D * (h * h)) ^ i)
  | 0, _ => by
    have e : ((0 : Nat) : Rat) * h = 0 := by have : ((0 : Nat) : Rat) = 0 := rfl; rw [this]; grind
    rw [e, Rat.pow_zero]
    have hp := hg 0 Rat.le_refl hX
    rw [sub_self', div_self1 hp]
    exact EG.zero
  | i + 1, hi => by
    obtain ⟨s1, s2, s3⟩ := step_sum h0 hi
    have ih := dn_steps h0 hD hg st hX i (by grind)
    have k := st ((i : Rat) * h) s1 s2
    rw [s3] at k
    have p0 := hg 0 Rat.le_refl hX
    have p1 := hg ((i : Rat) * h) s1 (by grind)
    have p2 := hg (((i + 1 : Nat) : Rat) * h) (by grind) hi
    have r := EG.add ih k (Rat.mul_pos (div_pos p2 p1) hD)
    generalize ((i + 1 : Nat) : Rat) * h = b at *
    generalize (i : Rat) * h = a at *
    rw [tele2, tele p1 p0, ← Rat.pow_succ] at r
    exact r

end Ex
end Mine

namespace Mine
namespace Ex

theorem lt_lt_le {a b c : Rat} (h : a < b) (h2 : b ≤ c) : a < c := by grind
theorem par1 {D X p : Rat} (hp : 0 < p) : p * (D * (X / p * (X / p))) = D * (X * X) / p := by grind
theorem par2 {X p : Rat} (hp : 0 < p) : p * (X / p) = X := by grind
theorem par3 {X p : Rat} (hp : 0 < p) (h : X < p) : X / p ≤ 1 := div_le hp (by grind)
theorem par4 {X p K : Rat} (hp : 0 < p) (h : 2 * X * K < p) : X / p * K ≤ 1 / 2 := by
  have e : X / p * K = X * K / p := by grind
  rw [e]
  exact div_le hp (by grind)
theorem par5 {q p : Rat} (hp : 0 < p) (h : 2 * q < p) : q / p ≤ 1 / 2 := div_le hp (by grind)
theorem par6 (r q p : Rat) : 2 * r * q / p = r * (2 * (q / p)) := by grind
theorem par7 (r q p : Rat) : r * q / p = r * (q / p) := by grind
theorem par8 {u q : Rat} (hq0 : 0 ≤ q) (hq1 : q ≤ 1 / 2) (pu : u * (1 - q) ≤ 1) : u ≤ 1 + 2 * q := by
  rcases Classical.em (u ≤ 1 + 2 * q) with x | x
  · exact x
  · have y := Rat.mul_lt_mul_of_pos_right (lt_of_not_le x) (show 0 < 1 - q by grind)
    have z := Rat.mul_nonneg hq0 (show 0 ≤ 1 - 2 * q by grind)
    grind
theorem par9 {h f' B C : Rat} (h0 : 0 ≤ h) (h1 : h ≤ 1) (hC : 0 ≤ C) (f2 : f' ≤ B) (hh : h * (B + C) ≤ 1 / 2) : h * f' + C * (h * h) ≤ 1 / 2 := by
  have x1 := Rat.mul_le_mul_of_nonneg_left f2 h0
  have x2 := Rat.mul_le_mul_of_nonneg_left h1 (Rat.mul_nonneg hC h0)
  grind
theorem par10 {a b c d : Rat} (h : a ≤ b + c + d) : a - b ≤ c + d := by grind
theorem par11 {a b c d : Rat} (h : b + c - d ≤ a) : c - d ≤ a - b := by grind
theorem par12 {r u q : Rat} (hr : 0 < r) (h : u ≤ 1 + 2 * q) : r * u ≤ r + r * (2 * q) := by
  have := Rat.mul_le_mul_of_nonneg_left h (Rat.le_of_lt hr)
  grind
theorem par13 {r u q : Rat} (hr : 0 < r) (h : 1 - q ≤ u) : r - r * q ≤ r * u := by
  have := Rat.mul_le_mul_of_nonneg_left h (Rat.le_of_lt hr)
  grind
theorem par14 {a b : Rat} (ha : 0 ≤ a) (hb : 0 ≤ b) : 0 ≤ a + b := by grind
theorem par15 {s p : Rat} (h1 : 1 ≤ p) (hs : 0 ≤ s) (h : p * s ≤ 1 / 2) : s ≤ 1 / 2 ∧ 0 < 1 - s := by
  have := Rat.mul_le_mul_of_nonneg_right h1 hs
  grind
theorem P_ge1 (m : Nat) : (1 : Rat) ≤ P m := by have := P_mono (Nat.zero_le m); rwa [P_zero] at this

/-- the arithmetic of one step, upwards -/
theorem step_up_arith {B C γ h f' g g' g2 s : Rat} (hB : 0 ≤ B) (hC : 0 ≤ C) (hγ : 0 < γ) (h0 : 0 ≤ h) (h1 : h ≤ 1)
    (f1 : -B ≤ f') (f2 : f' ≤ B) (g1 : γ ≤ g) (g3 : g ≤ B) (g4 : γ ≤ g2) (hd : f' * g ≤ g') (hg : g + h * g' - C * (h * h) ≤ g2) (hs : s = h * f' + C * (h * h)) :
    1 + s + 2 * (s * s) ≤ g2 / g * (1 + (C + (C + 2 * ((B + C) * (B + C))) * B) / γ * (h * h)) := by
  have hg0 : 0 < g := by grind
  have hh : 0 ≤ h * h := Rat.mul_nonneg h0 h0
  -- s * s ≤ (h (B + C)) ^ 2
  have a1 : -(h * (B + C)) ≤ s := by
    have x1 := Rat.mul_le_mul_of_nonneg_left f1 h0
    have x2 := Rat.mul_nonneg hC hh
    have x3 := Rat.mul_nonneg h0 hC
    grind
  have a2 : s ≤ h * (B + C) := by
    have x1 := Rat.mul_le_mul_of_nonneg_left f2 h0
    have x2 := Rat.mul_le_mul_of_nonneg_left h1 (Rat.mul_nonneg hC h0)
    grind
  have a3 : s * s ≤ h * h * ((B + C) * (B + C)) := by
    have := Rat.mul_nonneg (show 0 ≤ h * (B + C) - s by grind) (show 0 ≤ h * (B + C) + s by grind)
    grind
  -- times g
  have b1 : (1 + s + 2 * (s * s)) * g ≤ g2 + (C + (C + 2 * ((B + C) * (B + C))) * B) * (h * h) := by
    have x1 := Rat.mul_le_mul_of_nonneg_right a3 (Rat.le_of_lt hg0)
    have x2 := Rat.mul_le_mul_of_nonneg_left hd h0
    have x3 := Rat.mul_le_mul_of_nonneg_left g3 (Rat.mul_nonneg hh (show 0 ≤ C + 2 * ((B + C) * (B + C)) by
      have := sq_nonneg (B + C); grind))
    rw [hs] at *
    grind
  have b2 : (C + (C + 2 * ((B + C) * (B + C))) * B) * (h * h) ≤ g2 * ((C + (C + 2 * ((B + C) * (B + C))) * B) / γ * (h * h)) := by
    have k0 : 0 ≤ C + (C + 2 * ((B + C) * (B + C))) * B := by
      have x1 := sq_nonneg (B + C)
      have x2 := Rat.mul_nonneg (show 0 ≤ C + 2 * ((B + C) * (B + C)) by grind) hB
      grind
    generalize C + (C + 2 * ((B + C) * (B + C))) * B = K at *
    have x1 := Rat.mul_nonneg (div_nn k0 hγ) hh
    have x2 := Rat.mul_le_mul_of_nonneg_right g4 x1
    have e : γ * (K / γ * (h * h)) = K * (h * h) := by grind
    rw [e] at x2
    exact x2
  generalize (C + (C + 2 * ((B + C) * (B + C))) * B) / γ * (h * h) = w at *
  have e : g2 / g * (1 + w) = g2 * (1 + w) / g := by grind
  rw [e]
  refine le_div hg0 ?_
  grind

theorem step_dn_arith {B C γ h f' g g' g2 s : Rat} (hB : 0 ≤ B) (hC : 0 ≤ C) (hγ : 0 < γ) (h0 : 0 ≤ h)
    (g1 : γ ≤ g) (g3 : g ≤ B) (g4 : γ ≤ g2) (hd : g' ≤ f' * g) (hg : g2 ≤ g + h * g' + C * (h * h)) (hs : s = h * f' - C * (h * h)) :
    g2 / g * (1 - (C + C * B) / γ * (h * h)) ≤ 1 + s := by
  have hg0 : 0 < g := by grind
  have hh : 0 ≤ h * h := Rat.mul_nonneg h0 h0
  have b1 : g2 - (C + C * B) * (h * h) ≤ (1 + s) * g := by
    have x2 := Rat.mul_le_mul_of_nonneg_left hd h0
    have x3 := Rat.mul_le_mul_of_nonneg_left g3 (Rat.mul_nonneg hC hh)
    rw [hs]
    grind
  have b2 : (C + C * B) * (h * h) ≤ g2 * ((C + C * B) / γ * (h * h)) := by
    have k0 : 0 ≤ C + C * B := by have := Rat.mul_nonneg hC hB; grind
    generalize C + C * B = K at *
    have x1 := Rat.mul_nonneg (div_nn k0 hγ) hh
    have x2 := Rat.mul_le_mul_of_nonneg_right g4 x1
    have e : γ * (K / γ * (h * h)) = K * (h * h) := by grind
    rw [e] at x2
    exact x2
  generalize (C + C * B) / γ * (h * h) = w at *
  have e : g2 / g * (1 - w) = g2 * (1 - w) / g := by grind
  rw [e]
  refine div_le hg0 ?_
  grind

/-- f' g ≤ g' : exp of the rise of f is no more than the ratio of g -/
theorem cmp_up {X B C γ : Rat} {f f' g g' : Rat → Rat} (hX : 0 ≤ X) (F : Sm X B C f f') (G : Sm X B C g g') (hγ : 0 < γ) (hg : ∀ t, 0 ≤ t → t ≤ X → γ ≤ g t)
    (hd : ∀ t, 0 ≤ t → t ≤ X → f' t * g t ≤ g' t) : EL (f X - f 0) (g X / g 0) := by
  have hB := F.b0
  have hC := F.c0
  have hK : 0 ≤ C + (C + 2 * ((B + C) * (B + C))) * B := by
    have x1 := sq_nonneg (B + C)
    have x2 := Rat.mul_nonneg (show 0 ≤ C + 2 * ((B + C) * (B + C)) by clear hd hg; grind) hB
    exact par14 hC x2
  have hD := div_nn hK hγ
  have arith := fun h (h0 : 0 ≤ h) (h1 : h ≤ 1) t t0 t2 t1 hh => step_up_arith (s := h * f' t + C * (h * h)) hB hC hγ h0 h1 (F.lo' t t0 t2) (F.hi' t t0 t2) (hg t t0 t2) (G.hi t t0 t2) (hg (t + h) hh t1) (hd t t0 t2) (G.dn t h t0 h0 t1) rfl
  generalize (C + (C + 2 * ((B + C) * (B + C))) * B) / γ = D at *
  have hgp : ∀ t, 0 ≤ t → t ≤ X → 0 < g t := fun t h1 h2 => lt_lt_le hγ (hg t h1 h2)
  obtain ⟨n1, k1⟩ := archP (2 * X * (B + C))
  obtain ⟨n2, k2⟩ := archP X
  obtain ⟨n3, k3⟩ := archP (2 * (D * (X * X)))
  refine EL.of_all (B := 2 * (g X / g 0) * (D * (X * X))) ⟨max n1 (max n2 n3), fun m hm => ?_⟩
  have m1 := k1 m (by omega)
  have m2 := k2 m (by omega)
  have m3 := k3 m (by omega)
  have hp := P_pos m
  have hh0 : 0 ≤ X / P m := div_nn hX hp
  have hh1 : X / P m ≤ 1 := par3 hp m2
  have hh2 : X / P m * (B + C) ≤ 1 / 2 := par4 hp m1
  have st : ∀ t, 0 ≤ t → t + X / P m ≤ X → EL (f (t + X / P m) - f t) (g (t + X / P m) / g t * (1 + D * (X / P m * (X / P m)))) := by
    intro t t0 t1
    have t3 : 0 ≤ t + X / P m := par14 t0 hh0
    have t2 : t ≤ X := by clear hd hg hgp arith k1 k2 k3 hm; grind
    refine EL.mono ?_ (arith _ hh0 hh1 t t0 t2 t1 t3)
    exact EL.exp_mono (EL.quad (par9 hh0 hh1 hC (F.hi' t t0 t2) hh2)) (par10 (F.up t (X / P m) t0 hh0 t1))
  have key := up_steps hh0 hD hgp st hX (2 ^ m)
  rw [← P_cast, par2 hp] at key
  refine (key Rat.le_refl).mono ?_
  have pu := pow_up (s := D * (X / P m * (X / P m))) (Rat.mul_nonneg hD (Rat.mul_nonneg hh0 hh0)) (2 ^ m)
  rw [← P_cast, par1 hp] at pu
  have hq0 : 0 ≤ D * (X * X) / P m := div_nn (Rat.mul_nonneg hD (Rat.mul_nonneg hX hX)) hp
  have hq1 : D * (X * X) / P m ≤ 1 / 2 := par5 hp m3
  have hr0 : 0 < g X / g 0 := div_pos (hgp X hX Rat.le_refl) (hgp 0 Rat.le_refl hX)
  rw [par6]
  exact par12 hr0 (par8 hq0 hq1 pu)

/-- g' ≤ f' g : exp of the rise of f is no less than the ratio of g -/
theorem cmp_dn {X B C γ : Rat} {f f' g g' : Rat → Rat} (hX : 0 ≤ X) (F : Sm X B C f f') (G : Sm X B C g g') (hγ : 0 < γ) (hg : ∀ t, 0 ≤ t → t ≤ X → γ ≤ g t)
    (hd : ∀ t, 0 ≤ t → t ≤ X → g' t ≤ f' t * g t) : EG (f X - f 0) (g X / g 0) := by
  have hB := F.b0
  have hC := F.c0
  have hK : 0 ≤ C + C * B := par14 hC (Rat.mul_nonneg hC hB)
  have hD := div_nn hK hγ
  have arith := fun h (h0 : 0 ≤ h) t t0 t2 t1 hh => step_dn_arith (s := h * f' t - C * (h * h)) hB hC hγ h0 (hg t t0 t2) (G.hi t t0 t2) (hg (t + h) hh t1) (hd t t0 t2) (G.up t h t0 h0 t1) rfl
  generalize (C + C * B) / γ = D at *
  have hgp : ∀ t, 0 ≤ t → t ≤ X → 0 < g t := fun t h1 h2 => lt_lt_le hγ (hg t h1 h2)
  obtain ⟨n3, k3⟩ := archP (2 * (D * (X * X)))
  refine EG.of_all (B := (g X / g 0) * (D * (X * X))) ⟨n3, fun m hm => ?_⟩
  have m3 := k3 m (by omega)
  have hp := P_pos m
  have hh0 : 0 ≤ X / P m := div_nn hX hp
  have st : ∀ t, 0 ≤ t → t + X / P m ≤ X → EG (f (t + X / P m) - f t) (g (t + X / P m) / g t * (1 - D * (X / P m * (X / P m)))) := by
    intro t t0 t1
    have t3 : 0 ≤ t + X / P m := par14 t0 hh0
    have t2 : t ≤ X := by clear hd hg hgp arith k3 hm; grind
    refine EG.mono ?_ (arith _ hh0 t t0 t2 t1 t3)
    exact EG.exp_mono (EG.one_add _) (par11 (F.dn t (X / P m) t0 hh0 t1))
  have hq0 : 0 ≤ D * (X * X) / P m := div_nn (Rat.mul_nonneg hD (Rat.mul_nonneg hX hX)) hp
  have hq1 : D * (X * X) / P m ≤ 1 / 2 := par5 hp m3
  have hs0 : 0 ≤ D * (X / P m * (X / P m)) := Rat.mul_nonneg hD (Rat.mul_nonneg hh0 hh0)
  obtain ⟨hs1, hs2⟩ := par15 (P_ge1 m) hs0 (by rw [par1 hp]; exact hq1)
  have key := dn_steps hh0 hs2 hgp st hX (2 ^ m)
  rw [← P_cast, par2 hp] at key
  refine (key Rat.le_refl).mono ?_
  have pd := pow_dn hs0 (by clear hd hg hgp arith k3 hm st key; grind) (2 ^ m)
  rw [← P_cast, par1 hp] at pd
  have hr0 : 0 < g X / g 0 := div_pos (hgp X hX Rat.le_refl) (hgp 0 Rat.le_refl hX)
  rw [par7]
  exact par13 hr0 pd

end Ex
end Mine

namespace Mine
namespace Ex

def Smooth (X : Rat) (f f' : Rat → Rat) : Prop := ∃ B C, Sm X B C f f'

theorem Sm.mono {X B C B' C' : Rat} {f f' : Rat → Rat} (S : Sm X B C f f') (hB : B ≤ B') (hC : C ≤ C') : Sm X B' C' f f' where
  b0 := Rat.le_trans S.b0 hB
  c0 := Rat.le_trans S.c0 hC
  lo t h1 h2 := by have := S.lo t h1 h2; grind
  hi t h1 h2 := by have := S.hi t h1 h2; grind
  lo' t h1 h2 := by have := S.lo' t h1 h2; grind
  hi' t h1 h2 := by have := S.hi' t h1 h2; grind
  dn t h h1 h2 h3 := by
    have := S.dn t h h1 h2 h3
    have := Rat.mul_le_mul_of_nonneg_right hC (Rat.mul_nonneg h2 h2)
    grind
  up t h h1 h2 h3 := by
    have := S.up t h h1 h2 h3
    have := Rat.mul_le_mul_of_nonneg_right hC (Rat.mul_nonneg h2 h2)
    grind

theorem abs_ex (c : Rat) : ∃ a : Rat, 0 ≤ a ∧ -a ≤ c ∧ c ≤ a := by
  rcases Rat.le_total (a := 0) (b := c) with h | h
  · exact ⟨c, h, by grind, Rat.le_refl⟩
  · exact ⟨-c, by grind, by grind, by grind⟩
theorem Smooth.const {X : Rat} (c : Rat) : Smooth X (fun _ => c) (fun _ => 0) := by
  obtain ⟨a, h0, h1, h2⟩ := abs_ex c
  exact ⟨a, 0, h0, Rat.le_refl, fun _ _ _ => h1, fun _ _ _ => h2, fun _ _ _ => by grind, fun _ _ _ => h0, fun t h _ _ _ => by grind, fun t h _ _ _ => by grind⟩
theorem Smooth.add {X : Rat} {f f' g g' : Rat → Rat} (F : Smooth X f f') (G : Smooth X g g') : Smooth X (fun t => f t + g t) (fun t => f' t + g' t) := by
  obtain ⟨B, C, F⟩ := F
  obtain ⟨B2, C2, G⟩ := G
  refine ⟨B + B2, C + C2, par14 F.b0 G.b0, par14 F.c0 G.c0, fun t h1 h2 => ?_, fun t h1 h2 => ?_, fun t h1 h2 => ?_, fun t h1 h2 => ?_, fun t h h1 h2 h3 => ?_, fun t h h1 h2 h3 => ?_⟩
  · have a := F.lo t h1 h2; have b := G.lo t h1 h2; show -(B + B2) ≤ f t + g t; clear F G; grind
  · have a := F.hi t h1 h2; have b := G.hi t h1 h2; show f t + g t ≤ B + B2; clear F G; grind
  · have a := F.lo' t h1 h2; have b := G.lo' t h1 h2; show -(B + B2) ≤ f' t + g' t; clear F G; grind
  · have a := F.hi' t h1 h2; have b := G.hi' t h1 h2; show f' t + g' t ≤ B + B2; clear F G; grind
  · have a := F.dn t h h1 h2 h3; have b := G.dn t h h1 h2 h3
    show f t + g t + h * (f' t + g' t) - (C + C2) * (h * h) ≤ f (t + h) + g (t + h)
    clear F G; grind
  · have a := F.up t h h1 h2 h3; have b := G.up t h h1 h2 h3
    show f (t + h) + g (t + h) ≤ f t + g t + h * (f' t + g' t) + (C + C2) * (h * h)
    clear F G; grind
theorem mul_pm {c a x B : Rat} (h0 : 0 ≤ a) (h1 : -a ≤ c) (h2 : c ≤ a) (x1 : -B ≤ x) (x2 : x ≤ B) : -(a * B) ≤ c * x ∧ c * x ≤ a * B := by
  have k1 := Rat.mul_nonneg (show 0 ≤ a - c by grind) (show 0 ≤ B + x by grind)
  have k2 := Rat.mul_nonneg (show 0 ≤ a + c by grind) (show 0 ≤ B - x by grind)
  have k3 := Rat.mul_nonneg (show 0 ≤ a - c by grind) (show 0 ≤ B - x by grind)
  have k4 := Rat.mul_nonneg (show 0 ≤ a + c by grind) (show 0 ≤ B + x by grind)
  constructor <;> grind
theorem Smooth.smul {X : Rat} {f f' : Rat → Rat} (F : Smooth X f f') (c : Rat) : Smooth X (fun t => c * f t) (fun t => c * f' t) := by
  obtain ⟨B, C, F⟩ := F
  obtain ⟨a, h0, h1, h2⟩ := abs_ex c
  have key : ∀ t h, 0 ≤ t → 0 ≤ h → t + h ≤ X → -(a * (C * (h * h))) ≤ c * (f (t + h) - f t - h * f' t) ∧ c * (f (t + h) - f t - h * f' t) ≤ a * (C * (h * h)) := fun t h t0 k0 t1 =>
    mul_pm h0 h1 h2 (by have := F.dn t h t0 k0 t1; clear F; grind) (by have := F.up t h t0 k0 t1; clear F; grind)
  refine ⟨a * B, a * C, Rat.mul_nonneg h0 F.b0, Rat.mul_nonneg h0 F.c0, fun t t0 t1 => (mul_pm h0 h1 h2 (F.lo t t0 t1) (F.hi t t0 t1)).1, fun t t0 t1 => (mul_pm h0 h1 h2 (F.lo t t0 t1) (F.hi t t0 t1)).2,
    fun t t0 t1 => (mul_pm h0 h1 h2 (F.lo' t t0 t1) (F.hi' t t0 t1)).1, fun t t0 t1 => (mul_pm h0 h1 h2 (F.lo' t t0 t1) (F.hi' t t0 t1)).2, fun t h t0 k0 t1 => ?_, fun t h t0 k0 t1 => ?_⟩
  · have := (key t h t0 k0 t1).1
    show c * f t + h * (c * f' t) - a * C * (h * h) ≤ c * f (t + h)
    clear F key; grind
  · have := (key t h t0 k0 t1).2
    show c * f (t + h) ≤ c * f t + h * (c * f' t) + a * C * (h * h)
    clear F key; grind
theorem Smooth.mulX {X : Rat} (hX : 0 ≤ X) {f f' : Rat → Rat} (F : Smooth X f f') : Smooth X (fun t => t * f t) (fun t => f t + t * f' t) := by
  obtain ⟨B, C, F⟩ := F
  have hB := F.b0
  have hC := F.c0
  have key : ∀ t h, 0 ≤ t → 0 ≤ h → t + h ≤ X →
      -((B + 2 * (X * C)) * (h * h)) ≤ (t + h) * f (t + h) - t * f t - h * (f t + t * f' t) ∧ (t + h) * f (t + h) - t * f t - h * (f t + t * f' t) ≤ (B + 2 * (X * C)) * (h * h) := by
    intro t h t0 k0 t1
    have e1 := F.dn t h t0 k0 t1
    have e2 := F.up t h t0 k0 t1
    have b1 := F.lo' t t0 (by clear F; grind)
    have b2 := F.hi' t t0 (by clear F; grind)
    clear F
    generalize f (t + h) = y at *
    generalize f t = x at *
    generalize f' t = z at *
    have hh := Rat.mul_nonneg k0 k0
    have q1 := Rat.mul_le_mul_of_nonneg_left b1 hh
    have q2 := Rat.mul_le_mul_of_nonneg_left b2 hh
    have r1 := Rat.mul_le_mul_of_nonneg_left (show x + h * z - C * (h * h) ≤ y by grind) (show 0 ≤ t + h by grind)
    have r2 := Rat.mul_le_mul_of_nonneg_left (show y ≤ x + h * z + C * (h * h) by grind) (show 0 ≤ t + h by grind)
    have s1 := Rat.mul_le_mul_of_nonneg_right t1 (Rat.mul_nonneg hC hh)
    have s2 := Rat.mul_nonneg (Rat.mul_nonneg hX hC) hh
    constructor <;> grind
  refine ⟨B + X * B, B + 2 * (X * C), par14 hB (Rat.mul_nonneg hX hB), par14 hB (by have := Rat.mul_nonneg hX hC; clear F key; grind), ?_, ?_, ?_, ?_, ?_, ?_⟩
  · intro t t0 t1
    have a := mul_pm (c := t) (a := X) hX (by clear F key; grind) t1 (F.lo t t0 t1) (F.hi t t0 t1)
    show -(B + X * B) ≤ t * f t
    clear F key; grind
  · intro t t0 t1
    have a := mul_pm (c := t) (a := X) hX (by clear F key; grind) t1 (F.lo t t0 t1) (F.hi t t0 t1)
    show t * f t ≤ B + X * B
    clear F key; grind
  · intro t t0 t1
    have a := mul_pm (c := t) (a := X) hX (by clear F key; grind) t1 (F.lo' t t0 t1) (F.hi' t t0 t1)
    have b := F.lo t t0 t1
    show -(B + X * B) ≤ f t + t * f' t
    clear F key; grind
  · intro t t0 t1
    have a := mul_pm (c := t) (a := X) hX (by clear F key; grind) t1 (F.lo' t t0 t1) (F.hi' t t0 t1)
    have b := F.hi t t0 t1
    show f t + t * f' t ≤ B + X * B
    clear F key; grind
  · intro t h t0 k0 t1
    have := (key t h t0 k0 t1).1
    show t * f t + h * (f t + t * f' t) - (B + 2 * (X * C)) * (h * h) ≤ (t + h) * f (t + h)
    clear F key; grind
  · intro t h t0 k0 t1
    have := (key t h t0 k0 t1).2
    show (t + h) * f (t + h) ≤ t * f t + h * (f t + t * f' t) + (B + 2 * (X * C)) * (h * h)
    clear F key; grind
theorem Smooth.congr {X : Rat} {f f' g g' : Rat → Rat} (F : Smooth X f f') (h1 : ∀ t, f t = g t) (h2 : ∀ t, f' t = g' t) : Smooth X g g' := by
  have e1 : f = g := funext h1
  have e2 : f' = g' := funext h2
  rw [← e1, ← e2]
  exact F

theorem cmp_upS {X γ : Rat} {f f' g g' : Rat → Rat} (hX : 0 ≤ X) (F : Smooth X f f') (G : Smooth X g g') (hγ : 0 < γ) (hg : ∀ t, 0 ≤ t → t ≤ X → γ ≤ g t)
    (hd : ∀ t, 0 ≤ t → t ≤ X → f' t * g t ≤ g' t) : EL (f X - f 0) (g X / g 0) := by
  obtain ⟨B, C, F⟩ := F
  obtain ⟨B2, C2, G⟩ := G
  have b1 := F.b0
  have b2 := F.c0
  have b3 := G.b0
  have b4 := G.c0
  exact cmp_up hX (F.mono (show B ≤ B + B2 by clear hg hd F G; grind) (show C ≤ C + C2 by clear hg hd F G; grind)) (G.mono (show B2 ≤ B + B2 by clear hg hd F G; grind) (show C2 ≤ C + C2 by clear hg hd F G; grind)) hγ hg hd
theorem cmp_dnS {X γ : Rat} {f f' g g' : Rat → Rat} (hX : 0 ≤ X) (F : Smooth X f f') (G : Smooth X g g') (hγ : 0 < γ) (hg : ∀ t, 0 ≤ t → t ≤ X → γ ≤ g t)
    (hd : ∀ t, 0 ≤ t → t ≤ X → g' t ≤ f' t * g t) : EG (f X - f 0) (g X / g 0) := by
  obtain ⟨B, C, F⟩ := F
  obtain ⟨B2, C2, G⟩ := G
  have b1 := F.b0
  have b2 := F.c0
  have b3 := G.b0
  have b4 := G.c0
  exact cmp_dn hX (F.mono (show B ≤ B + B2 by clear hg hd F G; grind) (show C ≤ C + C2 by clear hg hd F G; grind)) (G.mono (show B2 ≤ B + B2 by clear hg hd F G; grind) (show C2 ≤ C + C2 by clear hg hd F G; grind)) hγ hg hd

end Ex
end Mine

namespace Mine
namespace Ex

/-- z ^ n / n ! -/
def mz : Nat → Rat → Rat
  | 0, _ => 1
  | n + 1, z => z * mz n z / ((n : Rat) + 1)
/-- the sum to the T-th power -/
def eZ : Nat → Rat → Rat
  | 0, _ => 1
  | T + 1, z => eZ T z + mz (T + 1) z

theorem n1_pos (n : Nat) : (0 : Rat) < (n : Rat) + 1 := by
  have : (0 : Rat) ≤ (n : Rat) := by exact_mod_cast Nat.zero_le n
  grind
theorem mz_succ (n : Nat) (z : Rat) : mz (n + 1) z = z * mz n z / ((n : Rat) + 1) := rfl
theorem eZ_succ (n : Nat) (z : Rat) : eZ (n + 1) z = eZ n z + mz (n + 1) z := rfl
theorem mz_smooth {X : Rat} (hX : 0 ≤ X) (s : Rat) : ∀ n, Smooth X (fun t => mz (n + 1) (s * t)) (fun t => s * mz n (s * t))
  | 0 => by
    refine ((Smooth.const (X := X) s).mulX hX).congr (fun t => ?_) (fun t => ?_)
    · show t * s = s * t * 1 / (((0 : Nat) : Rat) + 1)
      have : ((0 : Nat) : Rat) = 0 := rfl
      rw [this]; grind
    · show s + t * 0 = s * 1
      grind
  | n + 1 => by
    have ih := mz_smooth hX s n
    refine ((ih.mulX hX).smul (s / (((n + 1 : Nat) : Rat) + 1))).congr (fun t => ?_) (fun t => ?_)
    · show s / (((n + 1 : Nat) : Rat) + 1) * (t * mz (n + 1) (s * t)) = s * t * mz (n + 1) (s * t) / (((n + 1 : Nat) : Rat) + 1)
      generalize mz (n + 1) (s * t) = u
      generalize (((n + 1 : Nat) : Rat) + 1) = k
      grind
    · show s / (((n + 1 : Nat) : Rat) + 1) * (mz (n + 1) (s * t) + t * (s * mz n (s * t))) = s * mz (n + 1) (s * t)
      rw [mz_succ n]
      have h1 := n1_pos n
      have e : ((n + 1 : Nat) : Rat) = (n : Rat) + 1 := by grind
      rw [e]
      generalize mz n (s * t) = u
      generalize (n : Rat) = k at *
      grind
theorem eZ_smooth {X : Rat} (hX : 0 ≤ X) (s : Rat) : ∀ T, Smooth X (fun t => eZ (T + 1) (s * t)) (fun t => s * eZ T (s * t))
  | 0 => by
    refine ((Smooth.const (X := X) 1).add (mz_smooth hX s 0)).congr (fun t => rfl) (fun t => ?_)
    show 0 + s * mz 0 (s * t) = s * 1
    have : mz 0 (s * t) = 1 := rfl
    rw [this]; grind
  | T + 1 => by
    refine ((eZ_smooth hX s T).add (mz_smooth hX s (T + 1))).congr (fun t => rfl) (fun t => ?_)
    show s * eZ T (s * t) + s * mz (T + 1) (s * t) = s * (eZ T (s * t) + mz (T + 1) (s * t))
    grind

theorem mz_nn {z : Rat} (h : 0 ≤ z) : ∀ n, 0 ≤ mz n z
  | 0 => by show (0 : Rat) ≤ 1; decide
  | n + 1 => by
    rw [mz_succ]
    exact div_nn (Rat.mul_nonneg h (mz_nn h n)) (n1_pos n)
/-- the sign falls out -/
theorem mz_neg {z : Rat} : ∀ n, (mz n (-z) = mz n z) ∨ (mz n (-z) = -mz n z)
  | 0 => .inl rfl
  | n + 1 => by
    rw [mz_succ, mz_succ]
    rcases mz_neg (z := z) n with h | h
    · right
      rw [h]
      have := n1_pos n
      generalize (n : Rat) + 1 = k at *
      generalize mz n z = u
      grind
    · left
      rw [h]
      have := n1_pos n
      generalize (n : Rat) + 1 = k at *
      generalize mz n z = u
      grind
theorem mz_abs {z : Rat} (h : 0 ≤ z) (n : Nat) : -mz n z ≤ mz n (-z) ∧ mz n (-z) ≤ mz n z := by
  have h1 := mz_nn h n
  rcases mz_neg (z := z) n with e | e <;> rw [e] <;> grind
/-- each term is no more than z times the one ahead -/
theorem mz_le {z : Rat} (h : 0 ≤ z) (n : Nat) : mz (n + 1) z ≤ z * mz n z := by
  rw [mz_succ]
  have h1 := n1_pos n
  have h2 := Rat.mul_nonneg h (mz_nn h n)
  refine div_le h1 ?_
  have h3 : (0 : Rat) ≤ (n : Rat) := by exact_mod_cast Nat.zero_le n
  have := Rat.mul_nonneg h2 h3
  grind
theorem mz_half {z : Rat} (h : 0 ≤ z) (n : Nat) : 2 * mz (n + 2) z ≤ z * mz (n + 1) z := by
  rw [mz_succ (n + 1)]
  have h1 := n1_pos (n + 1)
  have h2 := Rat.mul_nonneg h (mz_nn h (n + 1))
  have h3 : (0 : Rat) ≤ (n : Rat) := by exact_mod_cast Nat.zero_le n
  have e : ((n + 1 : Nat) : Rat) = (n : Rat) + 1 := by grind
  have k : z * mz (n + 1) z / (((n + 1 : Nat) : Rat) + 1) ≤ z * mz (n + 1) z / 2 := by
    refine div_le h1 ?_
    rw [e]
    have := Rat.mul_nonneg h2 h3
    grind
  grind
/-- the sum, for z below a quarter, is within a third of 1 -/
theorem eZ_near {z : Rat} (h : 0 ≤ z) (h2 : z ≤ 1 / 4) : ∀ T, 1 ≤ eZ T z ∧ eZ T z ≤ 4 / 3 - mz T z / 3 ∧ 2 / 3 + mz T z / 3 ≤ eZ T (-z) ∧ eZ T (-z) ≤ 4 / 3 - mz T z / 3
  | 0 => by
    have e1 : eZ 0 z = 1 := rfl
    have e2 : eZ 0 (-z) = 1 := rfl
    have e3 : mz 0 z = 1 := rfl
    rw [e1, e2, e3]
    grind
  | T + 1 => by
    obtain ⟨a, b, c, d⟩ := eZ_near h h2 T
    rw [eZ_succ, eZ_succ]
    have n0 := mz_nn h T
    have n1 := mz_nn h (T + 1)
    have k := mz_le h T
    have q := Rat.mul_le_mul_of_nonneg_right h2 n0
    obtain ⟨x, y⟩ := mz_abs h (T + 1)
    generalize mz (T + 1) z = u at *
    generalize mz (T + 1) (-z) = u' at *
    generalize mz T z = v at *
    grind

end Ex
end Mine

namespace Mine
namespace Ex

theorem lin_smooth {X : Rat} (hX : 0 ≤ X) (s : Rat) : Smooth X (fun t => s * t) (fun _ => s) :=
  ((Smooth.const (X := X) s).mulX hX).congr (fun t => by grind) (fun t => by grind)
theorem mz_zero (n : Nat) : mz (n + 1) 0 = 0 := by
  rw [mz_succ]
  have := n1_pos n
  generalize mz n 0 = u
  grind
theorem eZ_zero : ∀ n, eZ n 0 = 1
  | 0 => rfl
  | n + 1 => by rw [eZ_succ, eZ_zero n, mz_zero]; grind

theorem taylor_up_pos {z : Rat} (h : 0 ≤ z) (h2 : z ≤ 1 / 4) (T : Nat) : EL z (eZ (T + 1) z + 5 / 4 * mz (T + 2) z) := by
  have key := cmp_upS (X := z) (γ := 1) (f := fun t => 1 * t) (f' := fun _ => 1) (g := fun t => eZ (T + 1) (1 * t) + 5 / 4 * mz (T + 2) (1 * t)) (g' := fun t => 1 * eZ T (1 * t) + 5 / 4 * (1 * mz (T + 1) (1 * t))) h (lin_smooth h 1)
    ((eZ_smooth h 1 T).add ((mz_smooth h 1 (T + 1)).smul (5 / 4))) (by decide) ?_ ?_
  · simp only [Rat.one_mul] at key
    rw [eZ_zero, mz_zero] at key
    have e1 : z - 0 = z := by grind
    have e2 : (eZ (T + 1) z + 5 / 4 * mz (T + 2) z) / (1 + 5 / 4 * 0) = eZ (T + 1) z + 5 / 4 * mz (T + 2) z := by grind
    rwa [e1, e2] at key
  · intro t t0 t1
    have a := (eZ_near t0 (by grind) (T + 1)).1
    have b := mz_nn t0 (T + 2)
    simp only [Rat.one_mul]
    grind
  · intro t t0 t1
    simp only [Rat.one_mul]
    rw [eZ_succ]
    have a := mz_half t0 T
    have b := mz_nn t0 (T + 1)
    have c := Rat.mul_le_mul_of_nonneg_right (show t ≤ 1 / 4 by grind) b
    grind
theorem taylor_dn_pos {z : Rat} (h : 0 ≤ z) (h2 : z ≤ 1 / 4) (T : Nat) : EG z (eZ (T + 1) z) := by
  have key := cmp_dnS (X := z) (γ := 1) (f := fun t => 1 * t) (f' := fun _ => 1) (g := fun t => eZ (T + 1) (1 * t)) (g' := fun t => 1 * eZ T (1 * t)) h (lin_smooth h 1)
    (eZ_smooth h 1 T) (by decide) ?_ ?_
  · simp only [Rat.one_mul] at key
    rw [eZ_zero] at key
    have e1 : z - 0 = z := by grind
    have e2 : eZ (T + 1) z / 1 = eZ (T + 1) z := by grind
    rwa [e1, e2] at key
  · intro t t0 t1
    have a := (eZ_near t0 (by grind) (T + 1)).1
    simp only [Rat.one_mul]
    exact a
  · intro t t0 t1
    simp only [Rat.one_mul]
    rw [eZ_succ]
    have b := mz_nn t0 (T + 1)
    grind
theorem neg_one_mul' (t : Rat) : -1 * t = -t := by grind
theorem taylor_up_neg {z : Rat} (h : 0 ≤ z) (h2 : z ≤ 1 / 4) (T : Nat) : EL (-z) (eZ (T + 1) (-z) + 5 / 4 * mz (T + 2) z) := by
  have key := cmp_upS (X := z) (γ := 1 / 2) (f := fun t => -1 * t) (f' := fun _ => -1) (g := fun t => eZ (T + 1) (-1 * t) + 5 / 4 * mz (T + 2) (1 * t)) (g' := fun t => -1 * eZ T (-1 * t) + 5 / 4 * (1 * mz (T + 1) (1 * t))) h (lin_smooth h (-1))
    ((eZ_smooth h (-1) T).add ((mz_smooth h 1 (T + 1)).smul (5 / 4))) (by grind) ?_ ?_
  · simp only [Rat.one_mul, neg_one_mul'] at key
    have e0 : -(0 : Rat) = 0 := by grind
    rw [e0, eZ_zero, mz_zero] at key
    have e1 : -z - 0 = -z := by grind
    have e2 : (eZ (T + 1) (-z) + 5 / 4 * mz (T + 2) z) / (1 + 5 / 4 * 0) = eZ (T + 1) (-z) + 5 / 4 * mz (T + 2) z := by grind
    rwa [e1, e2] at key
  · intro t t0 t1
    have a := (eZ_near t0 (by grind) (T + 1)).2.2.1
    have b := mz_nn t0 (T + 2)
    have c := mz_nn t0 (T + 1)
    simp only [Rat.one_mul, neg_one_mul']
    grind
  · intro t t0 t1
    simp only [Rat.one_mul, neg_one_mul']
    rw [eZ_succ]
    have a := mz_nn t0 (T + 2)
    have b := mz_nn t0 (T + 1)
    have c := (mz_abs t0 (T + 1)).1
    grind
theorem taylor_dn_neg {z : Rat} (h : 0 ≤ z) (h2 : z ≤ 1 / 4) (T : Nat) : EG (-z) (eZ (T + 1) (-z) - mz (T + 2) z) := by
  have key := cmp_dnS (X := z) (γ := 1 / 2) (f := fun t => -1 * t) (f' := fun _ => -1) (g := fun t => eZ (T + 1) (-1 * t) + -1 * mz (T + 2) (1 * t)) (g' := fun t => -1 * eZ T (-1 * t) + -1 * (1 * mz (T + 1) (1 * t))) h (lin_smooth h (-1))
    ((eZ_smooth h (-1) T).add ((mz_smooth h 1 (T + 1)).smul (-1))) (by grind) ?_ ?_
  · simp only [Rat.one_mul, neg_one_mul'] at key
    have e0 : -(0 : Rat) = 0 := by grind
    rw [e0, eZ_zero, mz_zero] at key
    have e1 : -z - 0 = -z := by grind
    have e2 : (eZ (T + 1) (-z) + -mz (T + 2) z) / (1 + -0) = eZ (T + 1) (-z) - mz (T + 2) z := by grind
    rwa [e1, e2] at key
  · intro t t0 t1
    have a := (eZ_near t0 (by grind) (T + 1)).2.2.1
    have b := mz_le t0 (T + 1)
    have c := mz_nn t0 (T + 1)
    have d := Rat.mul_le_mul_of_nonneg_right (show t ≤ 1 / 4 by grind) c
    simp only [Rat.one_mul, neg_one_mul']
    grind
  · intro t t0 t1
    simp only [Rat.one_mul, neg_one_mul']
    rw [eZ_succ]
    have a := mz_nn t0 (T + 2)
    have b := mz_nn t0 (T + 1)
    have c := (mz_abs t0 (T + 1)).2
    grind

/-- the series of exp, with what it leaves out; a is z without its sign -/
theorem exp_taylor {z a : Rat} (h : 0 ≤ a) (h2 : a ≤ 1 / 4) (hz : z = a ∨ z = -a) (T : Nat) : EL z (eZ (T + 1) z + 5 / 4 * mz (T + 2) a) ∧ EG z (eZ (T + 1) z - mz (T + 2) a) := by
  rcases hz with e | e
  · rw [e]
    refine ⟨taylor_up_pos h h2 T, (taylor_dn_pos h h2 T).mono ?_⟩
    have := mz_nn h (T + 2)
    grind
  · rw [e]
    exact ⟨taylor_up_neg h h2 T, taylor_dn_neg h h2 T⟩

/-! the logarithm -/
theorem mul_pow' (a b : Rat) : ∀ n : Nat, (a * b) ^ n = a ^ n * b ^ n
  | 0 => by rw [Rat.pow_zero, Rat.pow_zero, Rat.pow_zero]; grind
  | n + 1 => by rw [Rat.pow_succ, Rat.pow_succ, Rat.pow_succ, mul_pow' a b n]; grind
end Ex
end Mine

namespace Mine
namespace Ex

end Ex
end Mine

namespace Mine
open Ex

theorem castpos {b : Int} (h : 0 < b) : (0 : Rat) < (b : Rat) := by exact_mod_cast h
theorem castnn {b : Int} (h : 0 ≤ b) : (0 : Rat) ≤ (b : Rat) := by exact_mod_cast h
theorem castle {a b : Int} (h : a ≤ b) : (a : Rat) ≤ (b : Rat) := by exact_mod_cast h
theorem divN_rat {a b : Int} (hb : 0 < b) : (a : Rat) / b - 1 / 2 ≤ (divN a b : Rat) ∧ (divN a b : Rat) ≤ (a : Rat) / b + 1 / 2 := by
  obtain ⟨h1, h2⟩ := divN_spec (a := a) hb
  generalize divN a b = q at *
  have hb' := castpos hb
  have k1 : (-(b : Rat)) ≤ 2 * ((a : Rat) - b * q) := by exact_mod_cast h1
  have k2 : 2 * ((a : Rat) - b * q) ≤ (b : Rat) := by exact_mod_cast h2
  generalize (a : Rat) = a at *
  generalize (b : Rat) = b at *
  generalize (q : Rat) = q at *
  constructor
  · have : a / b ≤ q + 1 / 2 := div_le hb' (by grind)
    grind
  · have : q - 1 / 2 ≤ a / b := le_div hb' (by grind)
    grind

/-- Horner's scheme of exp behind j turns -/
def hS (z : Rat) (T : Int) : Nat → Rat
  | 0 => z / T
  | j + 1 => z * (1 + hS z T j) / ((T - 1 - (j : Int) : Int) : Rat)
theorem hS_sum (z : Rat) {T : Nat} : ∀ j : Nat, j < T → mz (T - 1 - j) z * hS z (T : Int) j = eZ T z - eZ (T - 1 - j) z
  | 0, hj => by
    obtain ⟨n, rfl⟩ : ∃ n, T = n + 1 := ⟨T - 1, by omega⟩
    show mz (n + 1 - 1 - 0) z * (z / (((n + 1 : Nat) : Int) : Rat)) = eZ (n + 1) z - eZ (n + 1 - 1 - 0) z
    have e : n + 1 - 1 - 0 = n := by omega
    have e2 : ((((n + 1 : Nat) : Int)) : Rat) = (n : Rat) + 1 := by push_cast; rfl
    rw [e, e2, eZ_succ, mz_succ]
    have := n1_pos n
    generalize mz n z = u
    generalize eZ n z = w
    generalize (n : Rat) + 1 = k at *
    grind
  | j + 1, hj => by
    have ih := hS_sum z (T := T) j (by omega)
    obtain ⟨n, hn⟩ : ∃ n, T - 1 - j = n + 1 := ⟨T - 2 - j, by omega⟩
    have e1 : T - 1 - (j + 1) = n := by omega
    have e2 : ((T : Int) - 1 - (j : Int)) = ((n + 1 : Nat) : Int) := by omega
    rw [hn] at ih
    show mz (T - 1 - (j + 1)) z * (z * (1 + hS z (T : Int) j) / (((T : Int) - 1 - (j : Int) : Int) : Rat)) = _
    have e3 : ((((n + 1 : Nat) : Int)) : Rat) = (n : Rat) + 1 := by push_cast; rfl
    rw [e1, e2, e3]
    rw [mz_succ, eZ_succ, mz_succ] at ih
    have := n1_pos n
    generalize mz n z = u at *
    generalize eZ n z = w at *
    generalize eZ T z = E at *
    generalize hS z (T : Int) j = h at *
    generalize (n : Rat) + 1 = k at *
    grind
theorem hS_last (z : Rat) {T : Nat} (hT : 0 < T) : hS z (T : Int) (T - 1) = eZ T z - 1 := by
  have h := hS_sum z (T := T) (T - 1) (by omega)
  have e : T - 1 - (T - 1) = 0 := by omega
  rw [e] at h
  have e1 : mz 0 z = 1 := rfl
  have e2 : eZ 0 z = 1 := rfl
  rw [e1, e2] at h
  grind
theorem cast_mul3 (x a b : Int) : ((x * (a + b) : Int) : Rat) = (x : Rat) * ((a : Rat) + (b : Rat)) := by push_cast; rfl
theorem rat_mul_cast (a b : Int) : ((a * b : Int) : Rat) = (a : Rat) * (b : Rat) := by push_cast; rfl

/-- one turn of the series of exp, in rationals -/
theorem eS_step {z Ms E H i c ρ q : Rat} (hM : 0 < Ms) (hi : 1 ≤ i) (hc : 0 ≤ c) (hρ : 0 ≤ ρ) (z1 : -ρ ≤ z) (z2 : z ≤ ρ) (e1 : Ms * H - c ≤ E) (e2 : E ≤ Ms * H + c)
    (q1 : z * Ms * (Ms + E) / (Ms * i) - 1 / 2 ≤ q) (q2 : q ≤ z * Ms * (Ms + E) / (Ms * i) + 1 / 2) (hcc : 1 / 2 + ρ * c ≤ c) :
    Ms * (z * (1 + H) / i) - c ≤ q ∧ q ≤ Ms * (z * (1 + H) / i) + c := by
  have hi0 : 0 < i := by grind
  have e : z * Ms * (Ms + E) / (Ms * i) = Ms * (z * (1 + H) / i) + z * (E - Ms * H) / i := by grind
  rw [e] at q1 q2
  have m := mul_pm hρ z1 z2 (show -c ≤ E - Ms * H by grind) (show E - Ms * H ≤ c by grind)
  have k0 : 0 ≤ ρ * c := Rat.mul_nonneg hρ hc
  have k1 : z * (E - Ms * H) / i ≤ ρ * c := div_le hi0 (by
    have := Rat.mul_le_mul_of_nonneg_left hi k0
    grind)
  have k2 : -(ρ * c) ≤ z * (E - Ms * H) / i := le_div hi0 (by
    have := Rat.mul_le_mul_of_nonneg_left hi k0
    grind)
  generalize z * (E - Ms * H) / i = w at *
  generalize Ms * (z * (1 + H) / i) = W at *
  grind

theorem eS_err {x Ms T : Int} {z c ρ : Rat} (hM : 0 < Ms) (hT : 0 < T) (hz : z = (x : Rat) / (Ms : Rat)) (hc : 0 ≤ c) (hρ : 0 ≤ ρ) (z1 : -ρ ≤ z) (z2 : z ≤ ρ) (hcc : 1 / 2 + ρ * c ≤ c) :
    ∀ j : Nat, (j : Int) < T → (Ms : Rat) * hS z T j - c ≤ (eS x Ms T j : Rat) ∧ (eS x Ms T j : Rat) ≤ (Ms : Rat) * hS z T j + c
  | 0, _ => by
    have hM' := castpos hM
    have hT' := castpos hT
    have d := divN_rat (a := x) (b := T) hT
    show (Ms : Rat) * (z / T) - c ≤ (divN x T : Rat) ∧ (divN x T : Rat) ≤ (Ms : Rat) * (z / T) + c
    have e : (Ms : Rat) * (z / T) = (x : Rat) / T := by
      rw [hz]
      generalize (Ms : Rat) = M at *
      generalize (T : Rat) = t at *
      grind
    rw [e]
    have := Rat.mul_nonneg hρ hc
    generalize (x : Rat) / T = w at *
    generalize (divN x T : Rat) = q at *
    grind
  | j + 1, hj => by
    have hM' := castpos hM
    obtain ⟨e1, e2⟩ := eS_err hM hT hz hc hρ z1 z2 hcc j (by omega)
    have hi : 0 < T - 1 - (j : Int) := by omega
    have d := divN_rat (a := x * (Ms + eS x Ms T j)) (b := Ms * (T - 1 - (j : Int))) (Int.mul_pos hM hi)
    have hi' : (1 : Rat) ≤ ((T - 1 - (j : Int) : Int) : Rat) := by
      have : (1 : Int) ≤ T - 1 - (j : Int) := by omega
      exact_mod_cast this
    rw [cast_mul3, rat_mul_cast] at d
    have hx : (x : Rat) = z * (Ms : Rat) := by
      rw [hz]
      generalize (Ms : Rat) = M at *
      generalize (x : Rat) = t at *
      grind
    rw [hx] at d
    exact eS_step hM' hi' hc hρ z1 z2 e1 e2 d.1 d.2 hcc

end Mine

namespace Mine
open Ex

/-- factorials -/
def fc : Nat → Rat
  | 0 => 1
  | n + 1 => fc n * ((n : Rat) + 1)
theorem fc_pos : ∀ n, 0 < fc n
  | 0 => by show (0 : Rat) < 1; decide
  | n + 1 => Rat.mul_pos (fc_pos n) (n1_pos n)
theorem fc_succ_ge (n : Nat) : fc n ≤ fc (n + 1) := by
  show fc n ≤ fc n * ((n : Rat) + 1)
  have h : (0 : Rat) ≤ (n : Rat) := by exact_mod_cast Nat.zero_le n
  have := Rat.mul_nonneg (Rat.le_of_lt (fc_pos n)) h
  grind
theorem fc_mono {m n : Nat} (h : m ≤ n) : fc m ≤ fc n := by
  obtain ⟨k, rfl⟩ := Nat.le.dest h
  induction k with
  | zero => exact Rat.le_refl
  | succ k ih => exact Rat.le_trans (ih (by omega)) (fc_succ_ge (m + k))
theorem fc2 : fc 2 = 2 := by show (1 * (((0 : Nat) : Rat) + 1)) * (((1 : Nat) : Rat) + 1) = 2; grind
theorem fc3 : fc 3 = 6 := by show fc 2 * (((2 : Nat) : Rat) + 1) = 6; rw [fc2]; grind
theorem mz_fc (a : Rat) : ∀ n, mz n a * fc n = a ^ n
  | 0 => by rw [Rat.pow_zero]; show (1 : Rat) * 1 = 1; grind
  | n + 1 => by
    rw [mz_succ, Rat.pow_succ, ← mz_fc a n]
    show a * mz n a / ((n : Rat) + 1) * (fc n * ((n : Rat) + 1)) = mz n a * fc n * a
    have := n1_pos n
    generalize (n : Rat) + 1 = k at *
    generalize mz n a = u
    generalize fc n = f
    grind
theorem mz_le_pow {a : Rat} (h : 0 ≤ a) {n m : Nat} (hm : m ≤ n) : mz n a * fc m ≤ a ^ n := by
  rw [← mz_fc a n]
  exact Rat.mul_le_mul_of_nonneg_left (fc_mono hm) (mz_nn h n)

theorem pow_le_one {u : Rat} (h : 0 ≤ u) (h2 : u ≤ 1) : ∀ n : Nat, u ^ n ≤ 1
  | 0 => by rw [Rat.pow_zero]; exact Rat.le_refl
  | n + 1 => by
    rw [Rat.pow_succ]
    have := pow_le_one h h2 n
    have := pow_nn h n
    have := Rat.mul_le_mul_of_nonneg_left h2 this
    grind
/-- 2 ^ (L T) is at least 10 ^ (the signs of M) -/
theorem two_LT {M L : Int} (hM : 0 < M) (hL : 0 < L) : 10 ^ (digs M).toNat ≤ 2 ^ (L.toNat * (tOf M L).toNat) := by
  have hD := digs_pos (Int.le_of_lt hM)
  have hT := tOf_pos (Int.le_of_lt hM) hL
  obtain ⟨D, eD⟩ := Int.eq_ofNat_of_zero_le (Int.le_of_lt hD)
  obtain ⟨l, el⟩ := Int.eq_ofNat_of_zero_le (Int.le_of_lt hL)
  obtain ⟨t, et⟩ := Int.eq_ofNat_of_zero_le (Int.le_of_lt hT)
  have h1 : 10 * D ≤ 3 * (l * t) := by
    have h2 : (-10 * digs M) / (3 * L) * (3 * L) ≤ -10 * digs M := Int.ediv_mul_le _ (by omega)
    have h3 : (-10 * digs M) / (3 * L) = -(t : Int) := by unfold tOf at et; omega
    rw [h3, eD, el] at h2
    have h4 : (-(t : Int)) * (3 * (l : Int)) = -(3 * ((l * t : Nat) : Int)) := by push_cast; grind
    rw [h4] at h2
    omega
  rw [eD, et, el]
  show 10 ^ D ≤ 2 ^ (l * t)
  -- cubes
  have c1 : (10 ^ D) ^ 3 ≤ (2 ^ (l * t)) ^ 3 := by
    have e1 : (10 ^ D) ^ 3 = 1000 ^ D := by rw [← Nat.pow_mul, Nat.mul_comm, Nat.pow_mul]
    have e2 : (2 ^ (l * t)) ^ 3 = 2 ^ (3 * (l * t)) := by rw [← Nat.pow_mul, Nat.mul_comm]
    rw [e1, e2]
    have e3 : 1000 ^ D ≤ 1024 ^ D := Nat.pow_le_pow_left (by decide) D
    have e4 : 1024 ^ D = 2 ^ (10 * D) := by rw [Nat.pow_mul]
    have e5 : 2 ^ (10 * D) ≤ 2 ^ (3 * (l * t)) := Nat.pow_le_pow_right (by decide) h1
    omega
  rcases Nat.lt_or_ge (2 ^ (l * t)) (10 ^ D) with h | h
  · have := Nat.pow_lt_pow_left h (show 3 ≠ 0 by decide)
    omega
  · exact h
/-- the T-th power of what is below 2 ^ - L, by 10 ^ (the signs of M) -/
theorem pow_small {M L : Int} {a : Rat} (hM : 0 < M) (hL : 0 < L) (ha : 0 ≤ a) (h : a * (2 : Rat) ^ L.toNat ≤ 1) : a ^ (tOf M L).toNat * ((10 ^ (digs M).toNat : Nat) : Rat) ≤ 1 := by
  have h1 := two_LT hM hL
  have h2 : ((10 ^ (digs M).toNat : Nat) : Rat) ≤ ((2 ^ (L.toNat * (tOf M L).toNat) : Nat) : Rat) := by exact_mod_cast h1
  have h3 : ((2 ^ (L.toNat * (tOf M L).toNat) : Nat) : Rat) = ((2 : Rat) ^ L.toNat) ^ (tOf M L).toNat := by
    rw [Nat.pow_mul]
    push_cast
    rfl
  rw [h3] at h2
  have hp : (0 : Rat) ≤ (2 : Rat) ^ L.toNat := pow_nn (by decide) _
  have h4 := pow_le_one (Rat.mul_nonneg ha hp) h (tOf M L).toNat
  rw [mul_pow'] at h4
  have := Rat.mul_le_mul_of_nonneg_left h2 (pow_nn ha (tOf M L).toNat)
  grind
end Mine

namespace Mine
open Ex

theorem base_alg_up {E Ms e m c : Rat} (hM : 0 < Ms) (h : Ms * (e - 1) - c ≤ E) : e + 5 / 4 * m ≤ 1 + (E + c + Ms * (5 / 4 * m)) / Ms := by
  have : e + 5 / 4 * m - 1 ≤ (E + c + Ms * (5 / 4 * m)) / Ms := le_div hM (by grind)
  grind
theorem base_alg_dn {E Ms e m c : Rat} (hM : 0 < Ms) (hm : 0 ≤ m) (h : E ≤ Ms * (e - 1) + c) : 1 + (E - c - Ms * (5 / 4 * m)) / Ms ≤ e - m := by
  have k : (E - c - Ms * (5 / 4 * m)) / Ms ≤ e - m - 1 := div_le hM (by
    have := Rat.mul_nonneg (Rat.le_of_lt hM) hm
    grind)
  grind

/-- the series of _iexp, ahead of the doublings -/
theorem iexp_base {x Ms : Int} {T : Nat} {z a c : Rat} (hM : 0 < Ms) (hT : 0 < T) (hz : z = (x : Rat) / (Ms : Rat)) (ha : 0 ≤ a) (ha4 : a ≤ 1 / 4) (hza : z = a ∨ z = -a) (hc : 0 ≤ c) (hcc : 1 / 2 + a * c ≤ c) :
    EL z (1 + ((eS x Ms T (T - 1) : Rat) + c + (Ms : Rat) * (5 / 4 * mz (T + 1) a)) / (Ms : Rat)) ∧
    EG z (1 + ((eS x Ms T (T - 1) : Rat) - c - (Ms : Rat) * (5 / 4 * mz (T + 1) a)) / (Ms : Rat)) := by
  have hM' := castpos hM
  obtain ⟨n, rfl⟩ : ∃ n, T = n + 1 := ⟨T - 1, by omega⟩
  obtain ⟨e1, e2⟩ := eS_err (x := x) (T := ((n + 1 : Nat) : Int)) hM (by omega) hz hc ha (show -a ≤ z by grind) (show z ≤ a by grind) hcc n (by omega)
  have hl := hS_last z (T := n + 1) (by omega)
  have en : n + 1 - 1 = n := by omega
  rw [en] at hl ⊢
  rw [hl] at e1 e2
  obtain ⟨t1, t2⟩ := exp_taylor ha ha4 hza n
  exact ⟨t1.mono (base_alg_up hM' e1), t2.mono (base_alg_dn hM' (mz_nn ha _) e2)⟩

theorem absz {x Ms : Int} (hM : 0 < Ms) : ∃ a : Rat, 0 ≤ a ∧ ((x : Rat) / (Ms : Rat) = a ∨ (x : Rat) / (Ms : Rat) = -a) ∧ a * (Ms : Rat) = ((x.natAbs : Int) : Rat) := by
  have hM' := castpos hM
  rcases Int.le_total 0 x with h | h
  · refine ⟨(x : Rat) / (Ms : Rat), div_nn (castnn h) hM', .inl rfl, ?_⟩
    have e : ((x.natAbs : Int)) = x := by omega
    rw [e]
    exact Rat.div_mul_cancel (by grind)
  · refine ⟨-((x : Rat) / (Ms : Rat)), ?_, .inr (by grind), ?_⟩
    · have := castle h
      have k : (x : Rat) / (Ms : Rat) ≤ 0 := div_le hM' (by grind)
      grind
    · have e : ((x.natAbs : Int)) = -x := by omega
      rw [e]
      have e2 : ((-x : Int) : Rat) = -(x : Rat) := by push_cast; rfl
      rw [e2]
      have := Rat.div_mul_cancel (a := (x : Rat)) (b := (Ms : Rat)) (by grind)
      grind

end Mine

namespace Mine
open PySem.Builtin.Int (intBits)
open Ex

theorem two_pow_rat (n : Nat) : ((2 ^ n : Int) : Rat) = (2 : Rat) ^ n := by push_cast; rfl

end Mine

namespace Mine
open PySem.Builtin.Int (intBits)
open Ex

end Mine

namespace Mine
open PySem.Builtin.Int (intBits)
open Ex

theorem eS_all {x Ms T c : Int} (x1 : -c ≤ x) (x2 : x ≤ c) (hx : c ≤ Ms) (hMs : 0 < Ms) (hT : 1 ≤ T) (j : Nat) (hj : (j : Int) < T) : -(2 * c) ≤ eS x Ms T j ∧ eS x Ms T j ≤ 2 * c := by
  rcases j with _ | j
  · have := eS_le (T := T) x1 x2 hx hMs hT 0 (.inr rfl)
    omega
  · obtain ⟨e1, e2⟩ := eS_le (T := T) x1 x2 hx hMs hT j (by omega)
    rw [eS_succ]
    generalize eS x Ms T j = y at *
    have hi : 1 ≤ T - 1 - (j : Int) := by omega
    generalize T - 1 - (j : Int) = i at *
    have hc : 0 ≤ c := by omega
    obtain ⟨m1, m2⟩ := mul_abs x1 x2 e1 e2
    have p1 := Int.mul_le_mul_of_nonneg_right x1 (Int.le_of_lt hMs)
    have p2 := Int.mul_le_mul_of_nonneg_right x2 (Int.le_of_lt hMs)
    have p3 := Int.mul_le_mul_of_nonneg_left hx hc
    have p4 := Int.mul_le_mul_of_nonneg_left hi (Int.mul_nonneg hc (Int.le_of_lt hMs))
    exact divN_abs (Int.mul_pos hMs (by omega)) (by grind) (by grind)

/-- what is asked of the scale, the counts and the distance -/
structure Asked (M b d L₁ L₂ : Int) : Prop where
  m : 1000 * 2 ^ (b.toNat + 1) ≤ M
  d : (d.natAbs : Int) * 2 ^ (b.toNat + 1) ≤ M
  l1 : 3 ≤ L₁
  l1b : L₁ ≤ b
  l2 : 3 ≤ L₂
  l2b : L₂ ≤ b
  mb : intBits M ≤ 200

theorem pow_le_int {m n : Nat} (h : m ≤ n) : (2 : Int) ^ m ≤ 2 ^ n := by
  have h1 : (2 : Nat) ^ m ≤ 2 ^ n := Nat.pow_le_pow_right (by decide) h
  have e1 : ((2 ^ m : Nat) : Int) = 2 ^ m := Int.natCast_pow 2 _
  have e2 : ((2 ^ n : Nat) : Int) = 2 ^ n := Int.natCast_pow 2 _
  omega
/-- a number little more than the distance is small too -/
theorem small_of {M b d L x : Int} (hm : 1000 * 2 ^ (b.toNat + 1) ≤ M) (hd : (d.natAbs : Int) * 2 ^ (b.toNat + 1) ≤ M) (hL : 0 ≤ L) (hLb : L ≤ b) (hx : 8 * (x.natAbs : Int) ≤ 9 * (d.natAbs : Int) + 9) :
    (x.natAbs : Int) * 2 ^ L.toNat * 4 ≤ 3 * M := by
  have e : (2 : Int) ^ (b.toNat + 1) = 2 * 2 ^ b.toNat := by rw [Int.pow_succ]; omega
  rw [e] at hm hd
  have h1 := pow_le_int (show L.toNat ≤ b.toNat by omega)
  have h2 := two_pow_pos L.toNat
  have h3 := Int.mul_le_mul_of_nonneg_left h1 (show 0 ≤ (x.natAbs : Int) by omega)
  have h4 := Int.mul_le_mul_of_nonneg_right hx (show 0 ≤ (2 : Int) ^ b.toNat by omega)
  generalize (2 : Int) ^ b.toNat = p at *
  generalize (2 : Int) ^ L.toNat = q at *
  generalize (x.natAbs : Int) = X at *
  generalize (d.natAbs : Int) = D at *
  grind

theorem Asked.small {M b d L₁ L₂ : Int} (A : Asked M b d L₁ L₂) : (d.natAbs : Int) * 2 ^ L₁.toNat * 4 ≤ 3 * M ∧ (d.natAbs : Int) * 2 ^ L₂.toNat * 4 ≤ 3 * M := by
  have a := A.m; have b' := A.d; have c := A.l1; have d' := A.l1b; have e := A.l2; have f := A.l2b
  exact ⟨small_of A.m A.d (by omega) A.l1b (by omega), small_of A.m A.d (by omega) A.l2b (by omega)⟩
end Mine

namespace Mine
open PySem.Builtin.Int (intBits)

/-- what the contract of _iexp asks -/
structure PreE (M x L : Int) : Prop where
  b : intBits x ≤ 2000
  r : rOf M x L ≤ 1000
  e : ∀ j : Nat, (j : Int) < tOf M L → intBits (eS x (M * 2 ^ rOf M x L) (tOf M L) j) ≤ 3000
  d : ∀ j : Nat, j ≤ rOf M x L → intBits (dS M (rOf M x L) (iexpY M x L) j) ≤ 3000
end Mine

namespace Mine
open PySem.Builtin.Int (intBits)
open Ex

theorem P_int (n : Nat) : ((2 ^ n : Int) : Rat) = P n := by rw [two_pow_rat]; rfl

/-- one doubling, in rationals: s the scale ahead -/
theorem dbl_up {Y w s Y' : Rat} (hs : 0 < s) (h1 : Y * (Y + 2 * s) / (2 * s) - 1 / 2 ≤ Y') :
    (1 + (Y + w) / s) * (1 + (Y + w) / s) ≤ 1 + (Y' + (1 / 2 + w * (1 + Y / s) + w * w / (2 * s))) / (s / 2) := by
  have e : Y * (Y + 2 * s) / (2 * s) = Y + Y * Y / (2 * s) := by grind
  rw [e] at h1
  have k : ((1 + (Y + w) / s) * (1 + (Y + w) / s) - 1) ≤ (Y' + (1 / 2 + w * (1 + Y / s) + w * w / (2 * s))) / (s / 2) := by
    refine le_div (by grind) ?_
    have e2 : ((1 + (Y + w) / s) * (1 + (Y + w) / s) - 1) * (s / 2) = Y + Y * Y / (2 * s) + w * (1 + Y / s) + w * w / (2 * s) := by grind
    rw [e2]
    grind
  grind
theorem dbl_dn {Y w s Y' : Rat} (hs : 0 < s) (h1 : Y' ≤ Y * (Y + 2 * s) / (2 * s) + 1 / 2) :
    1 + (Y' - (1 / 2 + w * (1 + Y / s) + w * w / (2 * s))) / (s / 2) ≤ (1 + (Y - w) / s) * (1 + (Y - w) / s) := by
  have e : Y * (Y + 2 * s) / (2 * s) = Y + Y * Y / (2 * s) := by grind
  rw [e] at h1
  have k : (Y' - (1 / 2 + w * (1 + Y / s) + w * w / (2 * s))) / (s / 2) ≤ ((1 + (Y - w) / s) * (1 + (Y - w) / s) - 1) := by
    refine div_le (by grind) ?_
    have e2 : ((1 + (Y - w) / s) * (1 + (Y - w) / s) - 1) * (s / 2) = Y + Y * Y / (2 * s) - w * (1 + Y / s) + w * w / (2 * s) := by grind
    rw [e2]
    have : 0 ≤ w * w / (2 * s) := div_nn (sq_nonneg w) (by grind)
    grind
  grind

/-- the scale behind j of R doublings -/
def sc (M : Int) (R j : Nat) : Rat := (M : Rat) * P (R - j)
theorem sc_pos {M : Int} (hM : 0 < M) (R j : Nat) : 0 < sc M R j := Rat.mul_pos (castpos hM) (P_pos _)
theorem sc_succ {M : Int} {R j : Nat} (h : j < R) : sc M R (j + 1) = sc M R j / 2 := by
  unfold sc
  have e : R - j = (R - (j + 1)) + 1 := by omega
  rw [e, P_succ]
  grind
theorem sc_last {M : Int} {R : Nat} : sc M R R = (M : Rat) := by
  unfold sc
  rw [Nat.sub_self, P_zero]
  grind
theorem half_half (x s : Rat) (hs : 0 < s) : x / (s / 2) = x / s + x / s := by grind

theorem dS_rat {M Y : Int} {R j : Nat} (hM : 0 < M) (hj : j < R) :
    (dS M R Y j : Rat) * ((dS M R Y j : Rat) + 2 * sc M R j) / (2 * sc M R j) - 1 / 2 ≤ (dS M R Y (j + 1) : Rat) ∧
    (dS M R Y (j + 1) : Rat) ≤ (dS M R Y j : Rat) * ((dS M R Y j : Rat) + 2 * sc M R j) / (2 * sc M R j) + 1 / 2 := by
  rw [dS_succ]
  generalize dS M R Y j = y
  have hp : 0 < M * 2 ^ (R - 1 - j + 2) := shl_pos hM _
  have d := divN_rat (a := y * (y + M * 2 ^ (R - 1 - j + 2))) (b := M * 2 ^ (R - 1 - j + 2)) hp
  have e : ((M * 2 ^ (R - 1 - j + 2) : Int) : Rat) = 2 * sc M R j := by
    rw [rat_mul_cast, P_int]
    unfold sc
    have e1 : R - 1 - j + 2 = (R - j) + 1 := by omega
    rw [e1, P_succ]
    grind
  rw [cast_mul3, e] at d
  exact d

theorem dbl_run {M x Y : Int} {R : Nat} {w : Nat → Rat} (hM : 0 < M)
    (h0 : EL ((x : Rat) / sc M R 0) (1 + ((Y : Rat) + w 0) / sc M R 0) ∧ EG ((x : Rat) / sc M R 0) (1 + ((Y : Rat) - w 0) / sc M R 0))
    (hw : ∀ j < R, EL ((x : Rat) / sc M R j) (1 + ((dS M R Y j : Rat) + w j) / sc M R j) → EG ((x : Rat) / sc M R j) (1 + ((dS M R Y j : Rat) - w j) / sc M R j) →
      1 / 2 + w j * (1 + (dS M R Y j : Rat) / sc M R j) + w j * w j / (2 * sc M R j) ≤ w (j + 1) ∧ 0 < 1 + ((dS M R Y j : Rat) - w j) / sc M R j) :
    ∀ j ≤ R, EL ((x : Rat) / sc M R j) (1 + ((dS M R Y j : Rat) + w j) / sc M R j) ∧ EG ((x : Rat) / sc M R j) (1 + ((dS M R Y j : Rat) - w j) / sc M R j)
  | 0, _ => h0
  | j + 1, hj => by
    obtain ⟨a, b⟩ := dbl_run hM h0 hw j (by omega)
    obtain ⟨c1, c2⟩ := hw j (by omega) a b
    obtain ⟨d1, d2⟩ := dS_rat (Y := Y) hM (show j < R by omega)
    have hs := sc_pos hM R j
    have hs2 := sc_pos hM R (j + 1)
    rw [sc_succ (show j < R by omega)] at *
    generalize dS M R Y (j + 1) = Y2 at *
    generalize dS M R Y j = Y1 at *
    generalize sc M R j = s at *
    clear hw h0
    have hq := half_half (x : Rat) s hs
    rw [hq]
    generalize w (j + 1) = w2 at *
    generalize w j = w1 at *
    constructor
    · refine (EL.add a a).mono (Rat.le_trans (dbl_up hs d1) ?_)
      have := div_mono hs2 (show (Y2 : Rat) + (1 / 2 + w1 * (1 + (Y1 : Rat) / s) + w1 * w1 / (2 * s)) ≤ (Y2 : Rat) + w2 by grind)
      grind
    · refine (EG.add b b c2).mono (Rat.le_trans ?_ (dbl_dn hs d2))
      have := div_mono hs2 (show (Y2 : Rat) - w2 ≤ (Y2 : Rat) - (1 / 2 + w1 * (1 + (Y1 : Rat) / s) + w1 * w1 / (2 * s)) by grind)
      grind

theorem natAbs_bits {n : Int} : (n.natAbs : Int) < 2 ^ intBits n := by
  have h := intBits_le_iff.mp (Nat.le_refl (intBits n))
  have e : ((2 ^ intBits n : Nat) : Int) = 2 ^ intBits n := Int.natCast_pow 2 _
  omega
/-- what the doublings leave of x is below 2 ^ - L -/
theorem rOf_spec {M x L : Int} (hM : 0 < M) : (x.natAbs : Int) * 2 ^ L.toNat < M * 2 ^ rOf M x L := by
  have h := natAbs_bits (n := (x * 2 ^ L.toNat) / M)
  have h1 := Int.mul_ediv_add_emod (x * 2 ^ L.toNat) M
  have h2 := Int.emod_nonneg (x * 2 ^ L.toNat) (by omega : M ≠ 0)
  have h3 := Int.emod_lt_of_pos (x * 2 ^ L.toNat) hM
  have hp := two_pow_pos L.toNat
  unfold rOf
  generalize intBits ((x * 2 ^ L.toNat) / M) = r at *
  generalize (x * 2 ^ L.toNat) % M = m at *
  rcases Int.le_total 0 x with hx | hx
  · have e : (x.natAbs : Int) = x := by omega
    rw [e]
    have hxp := Int.mul_nonneg hx (Int.le_of_lt hp)
    have hq : 0 ≤ (x * 2 ^ L.toNat) / M := Int.ediv_nonneg hxp (by omega)
    generalize (x * 2 ^ L.toNat) / M = q at *
    have := Int.mul_le_mul_of_nonneg_left (show q + 1 ≤ 2 ^ r by omega) (Int.le_of_lt hM)
    grind
  · have e : (x.natAbs : Int) = -x := by omega
    rw [e]
    have hxp := Int.mul_nonneg (show 0 ≤ -x by omega) (Int.le_of_lt hp)
    have e2 : -x * 2 ^ L.toNat = -(x * 2 ^ L.toNat) := Int.neg_mul _ _
    rw [e2] at *
    generalize (x * 2 ^ L.toNat) / M = q at *
    generalize x * 2 ^ L.toNat = X at *
    have h5 : -q < 2 ^ r := by omega
    have := Int.mul_lt_mul_of_pos_left h5 hM
    grind

/-- the series, ahead of the doublings: w0 at least what it errs by -/
theorem iexp_start {M x L : Int} {c w0 : Rat} {a : Rat} (hM : 0 < M) (hL : 3 ≤ L) (a0 : 0 ≤ a) (az : (x : Rat) / sc M (rOf M x L) 0 = a ∨ (x : Rat) / sc M (rOf M x L) 0 = -a) (ha4 : a ≤ 1 / 4)
    (hc : 0 ≤ c) (hcc : 1 / 2 + a * c ≤ c) (hw : c + sc M (rOf M x L) 0 * (5 / 4 * mz ((tOf M L).toNat + 1) a) ≤ w0) :
    EL ((x : Rat) / sc M (rOf M x L) 0) (1 + ((iexpY M x L : Rat) + w0) / sc M (rOf M x L) 0) ∧ EG ((x : Rat) / sc M (rOf M x L) 0) (1 + ((iexpY M x L : Rat) - w0) / sc M (rOf M x L) 0) := by
  have hT := tOf_pos (M := M) (L := L) (by omega) (by omega)
  have hMs : 0 < M * 2 ^ rOf M x L := shl_pos hM _
  have es : ((M * 2 ^ rOf M x L : Int) : Rat) = sc M (rOf M x L) 0 := by
    rw [rat_mul_cast, P_int]; rfl
  have hs := sc_pos hM (rOf M x L) 0
  have key := iexp_base (x := x) (Ms := M * 2 ^ rOf M x L) (T := (tOf M L).toNat) (c := c) (z := (x : Rat) / sc M (rOf M x L) 0) hMs (by omega) (by rw [es]) a0 ha4 az hc hcc
  rw [es] at key
  have eY : iexpY M x L = eS x (M * 2 ^ rOf M x L) (((tOf M L).toNat : Nat) : Int) ((tOf M L).toNat - 1) := by
    unfold iexpY
    have e1 : (((tOf M L).toNat : Nat) : Int) = tOf M L := by omega
    have e2 : (tOf M L - 1).toNat = (tOf M L).toNat - 1 := by omega
    rw [e1, e2]
  rw [eY]
  obtain ⟨k1, k2⟩ := key
  generalize (eS x (M * 2 ^ rOf M x L) (((tOf M L).toNat : Nat) : Int) ((tOf M L).toNat - 1) : Rat) = E at *
  generalize sc M (rOf M x L) 0 * (5 / 4 * mz ((tOf M L).toNat + 1) a) = t at *
  generalize sc M (rOf M x L) 0 = s at *
  constructor
  · refine k1.mono ?_
    have := div_mono hs (show E + c + t ≤ E + w0 by grind)
    grind
  · refine k2.mono ?_
    have := div_mono hs (show E - w0 ≤ E - c - t by grind)
    grind

/-- x by the scale ahead of the doublings, without its sign -/
theorem abs_start {M x L : Int} (hM : 0 < M) : ∃ a : Rat, 0 ≤ a ∧ ((x : Rat) / sc M (rOf M x L) 0 = a ∨ (x : Rat) / sc M (rOf M x L) 0 = -a) ∧ a * sc M (rOf M x L) 0 = ((x.natAbs : Int) : Rat) ∧ a * (2 : Rat) ^ L.toNat ≤ 1 := by
  have hMs : 0 < M * 2 ^ rOf M x L := shl_pos hM _
  have es : ((M * 2 ^ rOf M x L : Int) : Rat) = sc M (rOf M x L) 0 := by
    rw [rat_mul_cast, P_int]; rfl
  obtain ⟨a, a0, az, am⟩ := absz (x := x) hMs
  have sp := rOf_spec (x := x) (L := L) hM
  have k := castle (Int.le_of_lt sp)
  rw [es] at az am k
  rw [rat_mul_cast, two_pow_rat, ← am] at k
  refine ⟨a, a0, az, am, ?_⟩
  have hs := sc_pos hM (rOf M x L) 0
  generalize sc M (rOf M x L) 0 = s at *
  generalize (2 : Rat) ^ L.toNat = p at *
  rcases Classical.em (a * p ≤ 1) with y | y
  · exact y
  · have := Rat.mul_lt_mul_of_pos_right (lt_of_not_le y) hs
    grind

end Mine

namespace Mine
open PySem.Builtin.Int (intBits)
open Ex

theorem iexpF_unit {M x L : Int} {w : Rat} (hM : 0 < M) : 1 + ((dS M (rOf M x L) (iexpY M x L) (rOf M x L) : Rat) + w) / (M : Rat) = ((iexpF M x L : Rat) + w) / (M : Rat) := by
  unfold iexpF
  have hM' := castpos hM
  have e : ((M + dS M (rOf M x L) (iexpY M x L) (rOf M x L) : Int) : Rat) = (M : Rat) + (dS M (rOf M x L) (iexpY M x L) (rOf M x L) : Rat) := by push_cast; rfl
  rw [e]
  generalize (dS M (rOf M x L) (iexpY M x L) (rOf M x L) : Rat) = y
  generalize (M : Rat) = N at *
  grind
theorem iexpF_unit' {M x L : Int} {w : Rat} (hM : 0 < M) : 1 + ((dS M (rOf M x L) (iexpY M x L) (rOf M x L) : Rat) - w) / (M : Rat) = ((iexpF M x L : Rat) - w) / (M : Rat) := by
  have h := iexpF_unit (x := x) (L := L) (w := -w) hM
  have e1 : ∀ y : Rat, y + -w = y - w := fun y => by grind
  rw [e1, e1] at h
  exact h

/-- what a doubling asks, by a bound of exp -/
theorem abs_step {Y w s b w2 q : Rat} (hs : 0 < s) (hw0 : 0 ≤ w) (hq : 0 ≤ q) (h1 : EL q (1 + (Y + w) / s)) (h2 : EG q (1 + (Y - w) / s)) (hb : EL q b) (hs2 : 2 * w < s)
    (hw : 1 / 2 + w * b + 3 / 2 * (w * w) / s ≤ w2) : 1 / 2 + w * (1 + Y / s) + w * w / (2 * s) ≤ w2 ∧ 0 < 1 + (Y - w) / s := by
  have k1 := h2.le hb
  have k2 := (EG.one_add q).le h1
  have e1 : (Y - w) / s = Y / s - w / s := by grind
  have e2 : (Y + w) / s = Y / s + w / s := by grind
  have e3 : 3 / 2 * (w * w) / s = w * (w / s) + w * w / (2 * s) := by grind
  have k5 : w / s < 1 / 2 := by
    rcases Classical.em (w / s < 1 / 2) with x | x
    · exact x
    · have := le_div_mul hs (Rat.not_lt.mp x)
      grind
  rw [e1] at k1 ⊢
  rw [e2] at k2
  rw [e3] at hw
  have k3 : 1 + Y / s ≤ b + w / s := by grind
  have k4 := Rat.mul_le_mul_of_nonneg_left k3 hw0
  constructor
  · grind
  · grind

/-- _iexp of what is not below nought, by a table of bounds -/
theorem iexp_abs_run {M x L : Int} {b W : Nat → Rat} (hM : 0 < M) (hx : 0 ≤ x)
    (h0 : EL ((x : Rat) / sc M (rOf M x L) 0) (1 + ((iexpY M x L : Rat) + W (rOf M x L)) / sc M (rOf M x L) 0) ∧ EG ((x : Rat) / sc M (rOf M x L) 0) (1 + ((iexpY M x L : Rat) - W (rOf M x L)) / sc M (rOf M x L) 0))
    (hb : ∀ i, 1 ≤ i → i ≤ rOf M x L → EL ((x : Rat) / ((M : Rat) * P i)) (b i)) (hWn : ∀ i, i ≤ rOf M x L → 0 ≤ W i) (hWs : ∀ i, 1 ≤ i → i ≤ rOf M x L → 2 * W i < (M : Rat) * P i)
    (hW : ∀ i, i < rOf M x L → 1 / 2 + W (i + 1) * b (i + 1) + 3 / 2 * (W (i + 1) * W (i + 1)) / ((M : Rat) * P (i + 1)) ≤ W i) :
    ∀ j ≤ rOf M x L, EL ((x : Rat) / sc M (rOf M x L) j) (1 + ((dS M (rOf M x L) (iexpY M x L) j : Rat) + W (rOf M x L - j)) / sc M (rOf M x L) j) ∧ EG ((x : Rat) / sc M (rOf M x L) j) (1 + ((dS M (rOf M x L) (iexpY M x L) j : Rat) - W (rOf M x L - j)) / sc M (rOf M x L) j) := by
  refine dbl_run (w := fun j => W (rOf M x L - j)) hM h0 ?_
  intro j hj e1 e2
  have hs := sc_pos hM (rOf M x L) j
  have hq : 0 ≤ (x : Rat) / sc M (rOf M x L) j := div_nn (castnn hx) hs
  obtain ⟨i, hi⟩ : ∃ i, rOf M x L - j = i + 1 := ⟨rOf M x L - j - 1, by omega⟩
  have es : sc M (rOf M x L) j = (M : Rat) * P (i + 1) := by unfold sc; rw [hi]
  have hi2 : rOf M x L - (j + 1) = i := by omega
  show 1 / 2 + W (rOf M x L - j) * _ + W (rOf M x L - j) * W (rOf M x L - j) / _ ≤ W (rOf M x L - (j + 1)) ∧ 0 < 1 + (_ - W (rOf M x L - j)) / _
  rw [hi2]
  have e1' : EL ((x : Rat) / sc M (rOf M x L) j) (1 + ((dS M (rOf M x L) (iexpY M x L) j : Rat) + W (rOf M x L - j)) / sc M (rOf M x L) j) := e1
  have e2' : EG ((x : Rat) / sc M (rOf M x L) j) (1 + ((dS M (rOf M x L) (iexpY M x L) j : Rat) - W (rOf M x L - j)) / sc M (rOf M x L) j) := e2
  rw [hi] at e1' e2' ⊢
  have hb' := hb (i + 1) (by omega) (by omega)
  have hs2 := hWs (i + 1) (by omega) (by omega)
  have hW' := hW i (by omega)
  have hn := hWn (i + 1) (by omega)
  rw [← es] at hb' hs2 hW'
  exact abs_step hs hn hq e1' e2' hb' hs2 hW'

theorem iexp_abs {M x L : Int} {b W : Nat → Rat} (hM : 0 < M) (hx : 0 ≤ x)
    (h0 : EL ((x : Rat) / sc M (rOf M x L) 0) (1 + ((iexpY M x L : Rat) + W (rOf M x L)) / sc M (rOf M x L) 0) ∧ EG ((x : Rat) / sc M (rOf M x L) 0) (1 + ((iexpY M x L : Rat) - W (rOf M x L)) / sc M (rOf M x L) 0))
    (hb : ∀ i, 1 ≤ i → i ≤ rOf M x L → EL ((x : Rat) / ((M : Rat) * P i)) (b i)) (hWn : ∀ i, i ≤ rOf M x L → 0 ≤ W i) (hWs : ∀ i, 1 ≤ i → i ≤ rOf M x L → 2 * W i < (M : Rat) * P i)
    (hW : ∀ i, i < rOf M x L → 1 / 2 + W (i + 1) * b (i + 1) + 3 / 2 * (W (i + 1) * W (i + 1)) / ((M : Rat) * P (i + 1)) ≤ W i) :
    EL ((x : Rat) / (M : Rat)) (((iexpF M x L : Rat) + W 0) / (M : Rat)) ∧ EG ((x : Rat) / (M : Rat)) (((iexpF M x L : Rat) - W 0) / (M : Rat)) := by
  have k := iexp_abs_run hM hx h0 hb hWn hWs hW (rOf M x L) (Nat.le_refl _)
  rw [sc_last, Nat.sub_self, iexpF_unit hM, iexpF_unit' hM] at k
  exact k

theorem rOf_le_pos {M x L : Int} {n : Nat} (hM : 0 < M) (hx : 0 ≤ x) (h : x * 2 ^ L.toNat < M * 2 ^ n) : rOf M x L ≤ n := by
  unfold rOf
  refine intBits_le_iff.mpr ?_
  have hp := two_pow_pos L.toNat
  have h0 : 0 ≤ (x * 2 ^ L.toNat) / M := Int.ediv_nonneg (Int.mul_nonneg hx (Int.le_of_lt hp)) (Int.le_of_lt hM)
  have h1 : (x * 2 ^ L.toNat) / M < 2 ^ n := Int.ediv_lt_of_lt_mul hM (by rw [Int.mul_comm (2 ^ n) M]; exact h)
  have e : ((2 ^ n : Nat) : Int) = 2 ^ n := Int.natCast_pow 2 n
  omega
/-- sizes that the contract of _iexp asks -/
theorem preE_of {M x L : Int} {B : Int} (hM : 0 < M) (hMb : intBits M ≤ 300) (hL : 0 < L) (hR : rOf M x L ≤ 400) (hxb : intBits x ≤ 2000) (hB0 : 0 < B) (hB : intBits B ≤ 200)
    (h : ∀ j ≤ rOf M x L, -((B : Rat) * sc M (rOf M x L) j) ≤ (dS M (rOf M x L) (iexpY M x L) j : Rat) ∧ (dS M (rOf M x L) (iexpY M x L) j : Rat) ≤ (B : Rat) * sc M (rOf M x L) j) : PreE M x L := by
  have hMs : 0 < M * 2 ^ rOf M x L := shl_pos hM _
  have hMsb : intBits (M * 2 ^ rOf M x L) ≤ 701 := shl_bits hMb (by omega)
  have hT := tOf_pos (M := M) (L := L) (by omega) (by omega)
  refine ⟨hxb, by omega, fun j hj => ?_, fun j hj => ?_⟩
  · have sp := rOf_spec (x := x) (L := L) hM
    have hp := two_pow_ge1 L.toNat
    have h1 := Int.mul_le_mul_of_nonneg_left hp (show 0 ≤ (x.natAbs : Int) by omega)
    have := eS_all (x := x) (Ms := M * 2 ^ rOf M x L) (T := tOf M L) (c := M * 2 ^ rOf M x L) (by omega) (by omega) (by omega) hMs (by omega) j hj
    exact bits_mono (bits_abs (b := 2 * (M * 2 ^ rOf M x L)) (by omega) (by omega) (intBits_mul_le (m := 64) (PySem.intBits_le_64 (by decide) (by decide)) hMsb))
  · obtain ⟨a, b⟩ := h j hj
    have hs : sc M (rOf M x L) j ≤ sc M (rOf M x L) 0 := by
      unfold sc
      exact Rat.mul_le_mul_of_nonneg_left (P_mono (by omega)) (Rat.le_of_lt (castpos hM))
    have es : ((B * (M * 2 ^ rOf M x L) : Int) : Rat) = (B : Rat) * sc M (rOf M x L) 0 := by
      rw [rat_mul_cast, rat_mul_cast, P_int]; rfl
    have hB' := castpos hB0
    have k := Rat.mul_le_mul_of_nonneg_left hs (Rat.le_of_lt hB')
    have k1 : (dS M (rOf M x L) (iexpY M x L) j : Rat) ≤ ((B * (M * 2 ^ rOf M x L) : Int) : Rat) := by rw [es]; exact Rat.le_trans b k
    have k2 : ((-(B * (M * 2 ^ rOf M x L)) : Int) : Rat) ≤ (dS M (rOf M x L) (iexpY M x L) j : Rat) := by
      rw [Rat.intCast_neg, es]
      grind
    exact bits_mono (bits_abs (b := B * (M * 2 ^ rOf M x L)) (Rat.intCast_le_intCast.mp k2) (Rat.intCast_le_intCast.mp k1) (intBits_mul_le hB hMsb))

/-- Y is bounded, by what the run tells -/
theorem run_bound {Y w s b q : Rat} (hs : 0 < s) (hw : w ≤ s) (h1 : EL q (1 + (Y + w) / s)) (h2 : EG q (1 + (Y - w) / s)) (hb : EL q b) {B : Rat} (hB : b + 1 ≤ B) (hB2 : 2 ≤ B) :
    -(B * s) ≤ Y ∧ Y ≤ B * s := by
  have k1 := h2.le hb
  have k2 := h1.pos
  have m := Rat.mul_le_mul_of_nonneg_right hB (Rat.le_of_lt hs)
  have m2 := Rat.mul_le_mul_of_nonneg_right hB2 (Rat.le_of_lt hs)
  have m3 := Rat.mul_le_mul_of_nonneg_right k1 (Rat.le_of_lt hs)
  have m4 := Rat.mul_lt_mul_of_pos_right k2 hs
  have e1 : (1 + (Y - w) / s) * s = s + Y - w := by grind
  have e2 : (1 + (Y + w) / s) * s = s + Y + w := by grind
  rw [e1] at m3
  rw [e2] at m4
  constructor <;> grind

end Mine

namespace Mine
open PySem.Builtin.Int (intBits)
open Ex

theorem divN_nn {a b : Int} (hb : 0 < b) (h : 0 ≤ a) : 0 ≤ divN a b := le_divN' hb (by rw [Int.mul_zero]; exact h)
end Mine

namespace Mine
open PySem.Builtin.Int (intBits)

/-- the first q + 1 of the stored figures of log(10) -/
def l10 (q : Int) : Int := 23025850929940456840179914546843642076011014886 / 10 ^ (46 - q).toNat
theorem l10_text_nat : ∀ n : Fin 47, PySem.intText? (Txt.slice (Str.ofString "23025850929940456840179914546843642076011014886") none (some (((n : Nat) : Int) + 1))) = some (l10 ((n : Nat) : Int)) ∧ (Txt.slice (Str.ofString "23025850929940456840179914546843642076011014886") none (some (((n : Nat) : Int) + 1))).length ≤ 640 := by decide +kernel
theorem l10_text {q : Int} (h0 : 0 ≤ q) (h1 : q ≤ 46) : PySem.intText? (Txt.slice (Str.ofString "23025850929940456840179914546843642076011014886") none (some (q + 1))) = some (l10 q) ∧ (Txt.slice (Str.ofString "23025850929940456840179914546843642076011014886") none (some (q + 1))).length ≤ 640 := by
  obtain ⟨n, rfl⟩ := Int.eq_ofNat_of_zero_le h0
  exact l10_text_nat ⟨n, by omega⟩

/-- the parts of _dexp -/
def dxX (c e : Int) : Int := if e + digs c - 1 > 0 then e + digs c - 1 else 0
def dxC (c e p : Int) : Int := if e + (p + 2 + dxX c e) ≥ 0 then c * 10 ^ (e + (p + 2 + dxX c e)).toNat else c / 10 ^ (-(e + (p + 2 + dxX c e))).toNat
def dxQ (c e p : Int) : Int := dxC c e p / l10 (p + 2 + dxX c e)
def dxR (c e p : Int) : Int := divN (dxC c e p % l10 (p + 2 + dxX c e)) (10 ^ (dxX c e).toNat)
def dexpD (c e p : Int) : Int := divN (iexpF (10 ^ (p + 2).toNat) (dxR c e p) 8) 1000
def dexpE (c e p : Int) : Int := dxQ c e p - (p + 2) + 3

theorem l10_pos_nat : ∀ n : Fin 47, 0 < l10 ((n : Nat) : Int) ∧ l10 ((n : Nat) : Int) < 2 ^ 160 := by decide +kernel
theorem l10_pos {q : Int} (h0 : 0 ≤ q) (h1 : q ≤ 46) : 0 < l10 q ∧ l10 q < 2 ^ 160 := by
  obtain ⟨n, rfl⟩ := Int.eq_ofNat_of_zero_le h0
  exact l10_pos_nat ⟨n, by omega⟩

theorem dxX_nn {c e x : Int} (h : (if e + digs c - 1 > 0 then e + digs c - 1 else 0) = x) : 0 ≤ x := by
  split at h <;> omega
theorem ten_pos (n : Nat) : (0 : Int) < 10 ^ n := Int.pow_pos (by decide)
theorem ten_bits {n : Nat} (h : n ≤ 250) : intBits ((10 : Int) ^ n) ≤ 1000 := by
  refine intBits_le_iff.mpr ?_
  rw [Int.natAbs_pow]
  have h1 : (10 : Nat) ^ n ≤ 10 ^ 250 := Nat.pow_le_pow_right (by decide) h
  have h2 : (10 : Nat) ^ 250 < 2 ^ 1000 := by decide +kernel
  exact Nat.lt_of_le_of_lt h1 h2
theorem ten_bits46 {n : Nat} (h : n ≤ 46) : intBits ((10 : Int) ^ n) ≤ 200 := by
  refine intBits_le_iff.mpr ?_
  rw [Int.natAbs_pow]
  have h1 : (10 : Nat) ^ n ≤ 10 ^ 46 := Nat.pow_le_pow_right (by decide) h
  have h2 : (10 : Nat) ^ 46 < 2 ^ 200 := by decide +kernel
  exact Nat.lt_of_le_of_lt h1 h2
theorem l10_bits {q : Int} (h0 : 0 ≤ q) (h1 : q ≤ 46) : intBits (l10 q) ≤ 9000 := by
  obtain ⟨a, b⟩ := l10_pos h0 h1
  have hp : (0 : Int) < 2 ^ 160 := two_pow_pos _
  exact bits_mono (bits_lt (k := 160) (by omega) b)
theorem dxC_up {c e p x C : Int} (hx : dxX c e = x) (h : 0 ≤ e + (p + 2 + x)) (hC : c * 10 ^ (e + (p + 2 + x)).toNat = C) : dxC c e p = C := by
  unfold dxC
  rw [hx, if_pos h, hC]
theorem dxR_of {c e p x C : Int} (hx : dxX c e = x) (hC : dxC c e p = C) (hl : 0 < l10 (p + 2 + x)) : divN (C.fmod (l10 (p + 2 + x))) (10 ^ x.toNat) = dxR c e p := by
  unfold dxR
  rw [hx, hC, Int.fmod_eq_emod_of_nonneg _ (Int.le_of_lt hl)]
theorem dxQ_of {c e p x C : Int} (hx : dxX c e = x) (hC : dxC c e p = C) (hl : 0 < l10 (p + 2 + x)) : C.fdiv (l10 (p + 2 + x)) = dxQ c e p := by
  unfold dxQ
  rw [hx, hC, Int.fdiv_eq_ediv_of_nonneg _ (Int.le_of_lt hl)]
end Mine

namespace Mine
open Ex

theorem lg_up : eZ 26 (23025850929940456840179914546843642076011014886 / 160000000000000000000000000000000000000000000000) + 5 / 4 * mz 27 (23025850929940456840179914546843642076011014886 / 160000000000000000000000000000000000000000000000) ≤ (1154781984689458179666482887295508281566948041477534890154152 : Rat) / 1000000000000000000000000000000000000000000000000000000000000 := by decide +kernel
theorem lg_dn : (1154781984689458179666482887295508281566948041484748442395783 : Rat) / 1000000000000000000000000000000000000000000000000000000000000 ≤ eZ 26 (23025850929940456840179914546843642076011014887 / 160000000000000000000000000000000000000000000000) - mz 27 (23025850929940456840179914546843642076011014887 / 160000000000000000000000000000000000000000000000) := by decide +kernel
theorem dblL {q b c : Rat} (h : EL q b) (hc : b * b ≤ c) : EL (q + q) c := (EL.add h h).mono hc
theorem dblG {q b c : Rat} (h : EG q b) (hb : 0 < b) (hc : c ≤ b * b) : EG (q + q) c := (EG.add h h hb).mono hc
theorem four_dbl (q : Rat) : q / 16 + q / 16 + (q / 16 + q / 16) + (q / 16 + q / 16 + (q / 16 + q / 16)) + (q / 16 + q / 16 + (q / 16 + q / 16) + (q / 16 + q / 16 + (q / 16 + q / 16))) = q := by grind

/-- the stored figures of log(10) are no more than log(10) -/
theorem lg_EL : EL (23025850929940456840179914546843642076011014886 / 10000000000000000000000000000000000000000000000) 10 := by
  have k := (exp_taylor (z := 23025850929940456840179914546843642076011014886 / 160000000000000000000000000000000000000000000000) (by decide +kernel) (by decide +kernel) (.inl rfl) 25).1.mono lg_up
  have k4 := dblL (c := 10) (dblL (dblL (dblL k Rat.le_refl) Rat.le_refl) Rat.le_refl) (by decide +kernel)
  have e : (23025850929940456840179914546843642076011014886 : Rat) / 160000000000000000000000000000000000000000000000 = 23025850929940456840179914546843642076011014886 / 10000000000000000000000000000000000000000000000 / 16 := by decide +kernel
  rw [e, four_dbl] at k4
  exact k4
/-- and one more in the last place is no less -/
theorem lg_EG : EG (23025850929940456840179914546843642076011014887 / 10000000000000000000000000000000000000000000000) 10 := by
  have k := (exp_taylor (z := 23025850929940456840179914546843642076011014887 / 160000000000000000000000000000000000000000000000) (by decide +kernel) (by decide +kernel) (.inl rfl) 25).2.mono lg_dn
  have k4 := dblG (c := 10) (dblG (dblG (dblG k (by decide +kernel) Rat.le_refl) (by decide +kernel) Rat.le_refl) (by decide +kernel) Rat.le_refl) (by decide +kernel) (by decide +kernel)
  have e : (23025850929940456840179914546843642076011014887 : Rat) / 160000000000000000000000000000000000000000000000 = 23025850929940456840179914546843642076011014887 / 10000000000000000000000000000000000000000000000 / 16 := by decide +kernel
  rw [e, four_dbl] at k4
  exact k4


theorem pow_add' (a : Rat) (m : Nat) : ∀ n : Nat, a ^ (m + n) = a ^ m * a ^ n
  | 0 => by rw [Rat.pow_zero, Nat.add_zero]; grind
  | n + 1 => by rw [← Nat.add_assoc, Rat.pow_succ, Rat.pow_succ, pow_add' a m n]; grind
theorem ten_cast (n : Nat) : (((10 : Int) ^ n : Int) : Rat) = (10 : Rat) ^ n := by push_cast; rfl
theorem tenQ_pos (n : Nat) : (0 : Rat) < (10 : Rat) ^ n := Rat.pow_pos (by decide)
/-- the first figures, cut: no more than log(10), and one more is no less -/
theorem l10_spec {q : Int} (h0 : 0 ≤ q) (h1 : q ≤ 46) : EL ((l10 q : Rat) / (10 : Rat) ^ q.toNat) 10 ∧ EG (((l10 q : Rat) + 1) / (10 : Rat) ^ q.toNat) 10 := by
  have hp : (0 : Int) < 10 ^ (46 - q).toNat := Int.pow_pos (by decide)
  have a := Int.mul_ediv_add_emod 23025850929940456840179914546843642076011014886 (10 ^ (46 - q).toNat)
  have b := Int.emod_nonneg 23025850929940456840179914546843642076011014886 (show (10 : Int) ^ (46 - q).toNat ≠ 0 by omega)
  have c := Int.emod_lt_of_pos 23025850929940456840179914546843642076011014886 hp
  have e : (10 : Rat) ^ (46 - q).toNat * (10 : Rat) ^ q.toNat = 10000000000000000000000000000000000000000000000 := by
    rw [← pow_add']
    have : (46 - q).toNat + q.toNat = 46 := by omega
    rw [this]
    decide +kernel
  have hl : l10 q = 23025850929940456840179914546843642076011014886 / 10 ^ (46 - q).toNat := rfl
  rw [← hl] at a
  generalize l10 q = l at *
  generalize 23025850929940456840179914546843642076011014886 % (10 : Int) ^ (46 - q).toNat = m at *
  have k1 : ((10 ^ (46 - q).toNat * l : Int) : Rat) ≤ ((23025850929940456840179914546843642076011014886 : Int) : Rat) := Rat.intCast_le_intCast.mpr (by omega)
  have k2 : ((23025850929940456840179914546843642076011014887 : Int) : Rat) ≤ ((10 ^ (46 - q).toNat * (l + 1) : Int) : Rat) := Rat.intCast_le_intCast.mpr (by rw [Int.mul_add, Int.mul_one]; omega)
  have e1 : ((10 ^ (46 - q).toNat * l : Int) : Rat) = (10 : Rat) ^ (46 - q).toNat * (l : Rat) := by push_cast; rfl
  have e2 : ((10 ^ (46 - q).toNat * (l + 1) : Int) : Rat) = (10 : Rat) ^ (46 - q).toNat * ((l : Rat) + 1) := by push_cast; rfl
  rw [e1] at k1
  rw [e2] at k2
  have hq := tenQ_pos q.toNat
  have hr := tenQ_pos (46 - q).toNat
  generalize (10 : Rat) ^ q.toNat = Q at *
  generalize (10 : Rat) ^ (46 - q).toNat = R at *
  generalize (l : Rat) = l at *
  have c1 : ((23025850929940456840179914546843642076011014886 : Int) : Rat) = 23025850929940456840179914546843642076011014886 := rfl
  have c2 : ((23025850929940456840179914546843642076011014887 : Int) : Rat) = 23025850929940456840179914546843642076011014887 := rfl
  rw [c1] at k1
  rw [c2] at k2
  constructor
  · refine lg_EL.exp_mono (div_le hq ?_)
    have e3 : (23025850929940456840179914546843642076011014886 : Rat) / 10000000000000000000000000000000000000000000000 * Q = 23025850929940456840179914546843642076011014886 / R := by
      rw [← e]
      grind
    rw [e3]
    exact le_div hr (by grind)
  · refine lg_EG.exp_mono (le_div hq ?_)
    have e3 : (23025850929940456840179914546843642076011014887 : Rat) / 10000000000000000000000000000000000000000000000 * Q = 23025850929940456840179914546843642076011014887 / R := by
      rw [← e]
      grind
    rw [e3]
    exact div_le hr (by grind)

end Mine

namespace Mine
open PySem.Builtin.Int (intBits)
open Ex

/-- a / b, cut -/
theorem ediv_rat {a b : Int} (hb : 0 < b) : ((a / b : Int) : Rat) ≤ (a : Rat) / (b : Rat) ∧ (a : Rat) / (b : Rat) < ((a / b : Int) : Rat) + 1 := by
  have h1 := Int.mul_ediv_add_emod a b
  have h2 := Int.emod_nonneg a (by omega : b ≠ 0)
  have h3 := Int.emod_lt_of_pos a hb
  have hb' := castpos hb
  generalize a / b = q at *
  generalize a % b = r at *
  have e : (a : Rat) = (b : Rat) * (q : Rat) + (r : Rat) := by rw [← h1]; push_cast; rfl
  have k2 := castnn h2
  have k3 : (r : Rat) < (b : Rat) := by exact_mod_cast h3
  rw [e]
  generalize (b : Rat) = b at *
  generalize (q : Rat) = q at *
  generalize (r : Rat) = r at *
  have e2 : (b * q + r) / b = q + r / b := by grind
  rw [e2]
  have k4 := div_nn k2 hb'
  have k5 : r / b < 1 := by
    rcases Classical.em (r / b < 1) with x | x
    · exact x
    · have := le_div_mul hb' (Rat.not_lt.mp x)
      grind
  constructor <;> grind

theorem EL3 : EL 3 64 := by
  have a := EL.quad (x := 3 / 8) (by decide +kernel)
  have b := dblL (c := 64) (dblL (dblL a Rat.le_refl) Rat.le_refl) (by decide +kernel)
  have e : (3 : Rat) / 8 + 3 / 8 + (3 / 8 + 3 / 8) + (3 / 8 + 3 / 8 + (3 / 8 + 3 / 8)) = 3 := by grind
  rw [e] at b
  exact b


/-- between two turns of the law's own bounds: j of n squarings are done -/
structure BInv (v : Rat) (one : Int) (n j : Nat) (low high : Int) : Prop where
  g : EG (v / P (n - j)) ((low : Rat) / (one : Rat))
  l : EL (v / P (n - j)) ((high : Rat) / (one : Rat))
  g1 : one ≤ low
  l1 : one ≤ high
  b : EG (3 / P (n - j) - 1 / (one : Rat)) ((high : Rat) / (one : Rat))

theorem one_le_rat {one a : Int} (ho : 0 < one) (h : one ≤ a) : 1 ≤ (a : Rat) / (one : Rat) := le_div (castpos ho) (by have := castle h; grind)
theorem le_64 {q : Rat} {a one : Int} (ho : 0 < one) (h : EG q ((a : Rat) / (one : Rat))) (hq : q ≤ 3) : a ≤ 64 * one := by
  have k := div_le_mul (castpos ho) ((h.exp_mono hq).le EL3)
  have e : ((64 * one : Int) : Rat) = 64 * (one : Rat) := by push_cast; rfl
  rw [← e] at k
  exact Rat.intCast_le_intCast.mp k
theorem BInv.bound {v : Rat} {one : Int} {n j : Nat} {low high : Int} (h : BInv v one n j low high) (ho : 0 < one) (v1 : v ≤ 1) : low ≤ 64 * one ∧ high ≤ 64 * one := by
  have p1 := P_ge1 (n - j)
  have p0 := P_pos (n - j)
  refine ⟨le_64 ho h.g ?_, le_64 ho h.b ?_⟩
  · have : v / P (n - j) ≤ 1 := div_le p0 (by grind)
    grind
  · have h1 : 3 / P (n - j) ≤ 3 := div_le p0 (by grind)
    have h2 := div_nn (show (0 : Rat) ≤ 1 by decide) (castpos ho)
    grind

theorem div_P_half (x : Rat) {n j : Nat} (h : j < n) : x / P (n - (j + 1)) = x / P (n - j) + x / P (n - j) := by
  have e : n - j = (n - (j + 1)) + 1 := by omega
  rw [e, P_succ]
  have := P_pos (n - (j + 1))
  generalize P (n - (j + 1)) = p at *
  grind

theorem BInv.turn {v : Rat} {one : Int} {n j : Nat} {low high : Int} (h : BInv v one n j low high) (ho : 0 < one) (hj : j < n) :
    BInv v one n (j + 1) (low * low / one) (-(-high * high / one)) := by
  have ho' := castpos ho
  have r1 := one_le_rat ho h.g1
  have r2 := one_le_rat ho h.l1
  obtain ⟨d1, d2⟩ := ediv_rat (a := low * low) ho
  obtain ⟨u1, u2⟩ := ediv_rat (a := -high * high) ho
  have eu : ((-high * high : Int) : Rat) = -((high : Rat) * (high : Rat)) := by push_cast; grind
  have en : ((-(-high * high / one) : Int) : Rat) = -((-high * high / one : Int) : Rat) := Rat.intCast_neg _
  rw [rat_mul_cast] at d1 d2
  rw [eu] at u1 u2
  have eh : ∀ x : Rat, x / (one : Rat) * (x / (one : Rat)) * (one : Rat) = x * x / (one : Rat) := fun x => by
    generalize (one : Rat) = o at *
    grind
  have hup : (high : Rat) / (one : Rat) * ((high : Rat) / (one : Rat)) ≤ ((-(-high * high / one) : Int) : Rat) / (one : Rat) := le_div ho' (by
    rw [en, eh]
    have : -((high : Rat) * (high : Rat)) / (one : Rat) = -((high : Rat) * (high : Rat) / (one : Rat)) := by
      generalize (one : Rat) = o at *
      grind
    rw [this] at u1
    grind)
  have hup2 : ((-(-high * high / one) : Int) : Rat) / (one : Rat) ≤ (high : Rat) / (one : Rat) * ((high : Rat) / (one : Rat)) + 1 / (one : Rat) := div_le ho' (by
    rw [en]
    have : -((high : Rat) * (high : Rat)) / (one : Rat) = -((high : Rat) * (high : Rat) / (one : Rat)) := by
      generalize (one : Rat) = o at *
      grind
    rw [this] at u2
    have e3 : ((high : Rat) / (one : Rat) * ((high : Rat) / (one : Rat)) + 1 / (one : Rat)) * (one : Rat) = (high : Rat) * (high : Rat) / (one : Rat) + 1 := by
      generalize (one : Rat) = o at *
      grind
    rw [e3]
    grind)
  have hlo : ((low * low / one : Int) : Rat) / (one : Rat) ≤ (low : Rat) / (one : Rat) * ((low : Rat) / (one : Rat)) := div_le ho' (by rw [eh]; exact d1)
  have g2 : one ≤ low * low / one := (Int.le_ediv_iff_mul_le ho).mpr (Int.mul_le_mul h.g1 h.g1 (Int.le_of_lt ho) (by have := h.g1; omega))
  have l2 : one ≤ -(-high * high / one) := by
    have : -high * high / one ≤ -one := by
      refine Int.le_of_lt_add_one (Int.ediv_lt_of_lt_mul ho ?_)
      have := Int.mul_le_mul h.l1 h.l1 (Int.le_of_lt ho) (by have := h.l1; omega)
      grind
    omega
  have e1 := div_P_half v hj
  have e3 := div_P_half 3 hj
  refine ⟨?_, ?_, g2, l2, ?_⟩
  · rw [e1]
    exact (EG.add h.g h.g (by grind)).mono hlo
  · rw [e1]
    exact (EL.add h.l h.l).mono hup
  · rw [e3]
    have k := EG.add (EG.add h.b h.b (by grind)) (EG.one_add (1 / (one : Rat))) (by have := div_pos (show (0 : Rat) < 1 by decide) ho'; grind)
    have e4 : 3 / P (n - j) - 1 / (one : Rat) + (3 / P (n - j) - 1 / (one : Rat)) + 1 / (one : Rat) = 3 / P (n - j) + 3 / P (n - j) - 1 / (one : Rat) := by grind
    rw [e4] at k
    refine k.mono (Rat.le_trans hup2 ?_)
    have hh : 1 ≤ (high : Rat) / (one : Rat) * ((high : Rat) / (one : Rat)) := by
      have := Rat.mul_le_mul_of_nonneg_left r2 (show 0 ≤ (high : Rat) / (one : Rat) by grind)
      grind
    have := Rat.mul_le_mul_of_nonneg_right hh (div_nn (show (0 : Rat) ≤ 1 by decide) ho')
    generalize (high : Rat) / (one : Rat) * ((high : Rat) / (one : Rat)) = H at *
    grind

theorem start_alg {D o h u e : Rat} (ho : 0 < o) (he : e = 1 / o) (hu0 : 0 ≤ u) (hu : u ≤ 1 / 1000) (heu : 1000 * e ≤ u) (hD : o - u * o - 1 ≤ D) (hD2 : h ≤ o * o / D + 1) : h / o ≤ 1 + (3 * u - e) := by
  have heo : e * o = 1 := by rw [he]; grind
  have he0 : 0 < e := by rw [he]; exact div_pos (by decide) ho
  -- o o / D ≤ o (1 + 2 u)
  have k0 : 0 < o - u * o - 1 := by
    have : u * o ≤ 1 / 1000 * o := Rat.mul_le_mul_of_nonneg_right hu (Rat.le_of_lt ho)
    have : 1000 * e * o ≤ u * o := Rat.mul_le_mul_of_nonneg_right heu (Rat.le_of_lt ho)
    grind
  have k1 : o * o / D ≤ o + 2 * (u * o) := by
    refine div_le (by grind) ?_
    have a1 := Rat.mul_le_mul_of_nonneg_left hD (show 0 ≤ o + 2 * (u * o) by
      have := Rat.mul_nonneg hu0 (Rat.le_of_lt ho)
      grind)
    refine Rat.le_trans ?_ a1
    have b1 : 1000 * e * (o * o) ≤ u * (o * o) := Rat.mul_le_mul_of_nonneg_right heu (Rat.le_of_lt (Rat.mul_pos ho ho))
    have b2 : 1000 * o ≤ u * (o * o) := by
      have : 1000 * e * (o * o) = 1000 * o := by grind
      grind
    have b3 : u * (u * (o * o)) ≤ 1 / 1000 * (u * (o * o)) := Rat.mul_le_mul_of_nonneg_right hu (Rat.mul_nonneg hu0 (Rat.le_of_lt (Rat.mul_pos ho ho)))
    have b4 : u * o ≤ 1 / 1000 * o := Rat.mul_le_mul_of_nonneg_right hu (Rat.le_of_lt ho)
    grind
  refine div_le ho ?_
  have b1 : 1000 * e * o ≤ u * o := Rat.mul_le_mul_of_nonneg_right heu (Rat.le_of_lt ho)
  grind

theorem BInv.start {c K one : Int} {n : Nat} (hc : 0 ≤ c) (hcK : c ≤ K) (hK : 0 < K) (ho : 0 < one) (hn : 10 ≤ n) (hon : 1000 * 2 ^ n ≤ one) :
    BInv ((c : Rat) / (K : Rat)) one n 0 (one + c * one / (K * 2 ^ n)) (-(-one * one / (one + -c * one / (K * 2 ^ n)))) ∧ 0 < one + -c * one / (K * 2 ^ n) := by
  have ho' := castpos ho
  have hK' := castpos hK
  have hP := P_pos n
  have hp : 0 < K * 2 ^ n := shl_pos hK n
  have ep : ((K * 2 ^ n : Int) : Rat) = (K : Rat) * P n := by rw [rat_mul_cast, P_int]
  obtain ⟨a1, a2⟩ := ediv_rat (a := c * one) hp
  obtain ⟨b1, b2⟩ := ediv_rat (a := -c * one) hp
  have ec : ((-c * one : Int) : Rat) = -((c : Rat) * (one : Rat)) := by push_cast; grind
  rw [rat_mul_cast, ep] at a1 a2
  rw [ec, ep] at b1 b2
  have hc' := castnn hc
  have hcK' := castle hcK
  -- v / P n = u
  have eu : (c : Rat) / (K : Rat) / P n * (one : Rat) = (c : Rat) * (one : Rat) / ((K : Rat) * P n) := by
    generalize (K : Rat) = k at *
    generalize P n = q at *
    grind
  have eu' : -((c : Rat) * (one : Rat)) / ((K : Rat) * P n) = -((c : Rat) / (K : Rat) / P n * (one : Rat)) := by
    rw [eu]
    generalize (K : Rat) * P n = k at *
    grind
  have hv0 : 0 ≤ (c : Rat) / (K : Rat) := div_nn hc' hK'
  have hv1 : (c : Rat) / (K : Rat) ≤ 1 := div_le hK' (by grind)
  have hu0 : 0 ≤ (c : Rat) / (K : Rat) / P n := div_nn hv0 hP
  have hu1 : (c : Rat) / (K : Rat) / P n ≤ 1 / P n := div_mono hP hv1
  have hP10 : (1000 : Rat) ≤ P n := by
    have h1 := P_mono hn
    have h2 : P 10 = 1024 := by decide +kernel
    rw [h2] at h1
    grind
  have hinv : 1 / P n ≤ 1 / 1000 := div_le hP (by grind)
  have hone : 1000 * (1 / (one : Rat)) ≤ 1 / P n := by
    refine le_div hP ?_
    have k : ((1000 * 2 ^ n : Int) : Rat) ≤ (one : Rat) := castle hon
    rw [rat_mul_cast, P_int] at k
    have k2 : 1000 * (1 / (one : Rat)) * P n = 1000 * P n / (one : Rat) := by
      generalize (one : Rat) = o at *
      grind
    rw [k2]
    refine div_le ho' ?_
    have e1000 : ((1000 : Int) : Rat) = 1000 := rfl
    rw [e1000] at k
    grind
  rw [← eu] at a1 a2
  rw [eu'] at b1 b2
  generalize hu : (c : Rat) / (K : Rat) / P n = u at *
  -- the divisor
  have eD : ((one + -c * one / (K * 2 ^ n) : Int) : Rat) = (one : Rat) + ((-c * one / (K * 2 ^ n) : Int) : Rat) := by push_cast; rfl
  have D1 : ((one + -c * one / (K * 2 ^ n) : Int) : Rat) ≤ (one : Rat) - u * (one : Rat) := by rw [eD]; grind
  have D2 : (one : Rat) - u * (one : Rat) - 1 ≤ ((one + -c * one / (K * 2 ^ n) : Int) : Rat) := by rw [eD]; grind
  have hu3 : u * (one : Rat) ≤ 1 / 1000 * (one : Rat) := Rat.mul_le_mul_of_nonneg_right (by grind) (Rat.le_of_lt ho')
  have ho1 : (1000 : Rat) ≤ (one : Rat) := by
    have : (1000 : Int) ≤ one := by
      have := two_pow_ge1 n
      omega
    exact_mod_cast this
  have Dp : 0 < one + -c * one / (K * 2 ^ n) := by
    have : (0 : Rat) < ((one + -c * one / (K * 2 ^ n) : Int) : Rat) := by grind
    exact_mod_cast this
  refine ⟨?_, Dp⟩
  generalize one + -c * one / (K * 2 ^ n) = D at *
  have Dp' := castpos Dp
  obtain ⟨h1, h2⟩ := ediv_rat (a := -one * one) Dp
  have eo : ((-one * one : Int) : Rat) = -((one : Rat) * (one : Rat)) := by push_cast; grind
  rw [eo] at h1 h2
  have en : ((-(-one * one / D) : Int) : Rat) = -((-one * one / D : Int) : Rat) := Rat.intCast_neg _
  have em : -((one : Rat) * (one : Rat)) / (D : Rat) = -((one : Rat) * (one : Rat) / (D : Rat)) := by
    generalize (D : Rat) = D at *
    grind
  rw [em] at h1 h2
  have el : ((one + c * one / (K * 2 ^ n) : Int) : Rat) = (one : Rat) + ((c * one / (K * 2 ^ n) : Int) : Rat) := by push_cast; rfl
  have hl0 : 0 ≤ c * one / (K * 2 ^ n) := Int.ediv_nonneg (Int.mul_nonneg hc (Int.le_of_lt ho)) (Int.le_of_lt hp)
  refine ⟨?_, ?_, by omega, ?_, ?_⟩
  · show EG ((c : Rat) / (K : Rat) / P n) _
    rw [hu]
    refine (EG.one_add u).mono (div_le ho' ?_)
    rw [el]
    grind
  · show EL ((c : Rat) / (K : Rat) / P n) _
    rw [hu]
    refine (EL.inv (by grind)).mono ?_
    refine le_div ho' ?_
    rw [en]
    have k : 1 / (1 - u) * (one : Rat) ≤ (one : Rat) * (one : Rat) / (D : Rat) := by
      refine le_div Dp' ?_
      have k1 : 1 / (1 - u) * (one : Rat) * (D : Rat) ≤ 1 / (1 - u) * (one : Rat) * ((one : Rat) - u * (one : Rat)) := Rat.mul_le_mul_of_nonneg_left D1 (Rat.mul_nonneg (div_nn (by decide) (by grind)) (Rat.le_of_lt ho'))
      have k2 : 1 / (1 - u) * (one : Rat) * ((one : Rat) - u * (one : Rat)) = (one : Rat) * (one : Rat) := by
        have : (1 - u) ≠ 0 := by grind
        generalize (one : Rat) = o at *
        grind
      rw [k2] at k1
      exact k1
    grind
  · have : (one : Rat) ≤ ((-(-one * one / D) : Int) : Rat) := by
      rw [en]
      have : (one : Rat) ≤ (one : Rat) * (one : Rat) / (D : Rat) := le_div Dp' (Rat.mul_le_mul_of_nonneg_left (by
        have := Rat.mul_nonneg hu0 (Rat.le_of_lt ho')
        grind) (Rat.le_of_lt ho'))
      grind
    exact Rat.intCast_le_intCast.mp this
  · show EG (3 / P n - 1 / (one : Rat)) _
    refine (EG.one_add _).mono ?_
    have e3 : 3 / P n = 3 * (1 / P n) := by grind
    rw [e3]
    refine start_alg (D := (D : Rat)) ho' rfl (div_nn (by decide) hP) hinv hone ?_ ?_
    · have := Rat.mul_le_mul_of_nonneg_right hu1 (Rat.le_of_lt ho')
      grind
    · rw [en]
      grind

end Mine

namespace Mine
open PySem.Builtin.Int (intBits)
open Ex

theorem digs_neg {m : Nat} (h : 0 < m) : digs (-(m : Int)) = digs (m : Int) + 1 := by
  obtain ⟨n, rfl⟩ : ∃ n, m = n + 1 := ⟨m - 1, by omega⟩
  have e : toString (-((n + 1 : Nat) : Int)) = "-" ++ toString ((n + 1 : Nat) : Int) := rfl
  unfold digs
  rw [e, PySem.ofString_length, PySem.ofString_length, String.length_append]
  have : ("-" : String).length = 1 := rfl
  rw [this]
  omega
theorem digs_ten (n : Nat) : digs ((10 : Int) ^ n) = (n : Int) + 1 := by
  have hp := ten_pos n
  have h1 : digs ((10 : Int) ^ n) ≤ ((n + 1 : Nat) : Int) := (digs_iff (Int.le_of_lt hp) (by omega)).mpr (by rw [Int.pow_succ]; omega)
  rcases Nat.eq_zero_or_pos n with h0 | h0
  · subst h0
    have := digs_pos (Int.le_of_lt hp)
    omega
  · have h2 : ¬ digs ((10 : Int) ^ n) ≤ ((n : Nat) : Int) := fun h => by
      have := (digs_iff (Int.le_of_lt hp) h0).mp h
      omega
    omega

/-- what the series leaves out at a power of ten -/
theorem rest10 {n : Nat} {x : Int} {a X : Rat} {m : Nat} (ha : 0 ≤ a) (h : a * (2 : Rat) ^ (Int.toNat 8) ≤ 1) (hX : a * sc (10 ^ n) (rOf (10 ^ n) x 8) 0 = X) (hm : m ≤ (tOf (10 ^ n) 8).toNat + 1) :
    sc (10 ^ n) (rOf (10 ^ n) x 8) 0 * (5 / 4 * mz ((tOf (10 ^ n) 8).toNat + 1) a) * fc m * (10 * (10 : Rat) ^ n) ≤ 5 / 4 * X := by
  have hM := ten_pos n
  have h1 := pow_small (L := 8) hM (by decide) ha h
  rw [digs_ten] at h1
  have e : ((10 ^ ((n : Int) + 1).toNat : Nat) : Rat) = 10 * (10 : Rat) ^ n := by
    have : ((n : Int) + 1).toNat = n + 1 := by omega
    rw [this, Nat.pow_succ]
    push_cast
    grind
  rw [e] at h1
  have h2 := mz_le_pow ha hm
  rw [Rat.pow_succ] at h2
  have hs := sc_pos hM (rOf (10 ^ n) x 8) 0
  have h10 : (0 : Rat) < 10 * (10 : Rat) ^ n := by have := tenQ_pos n; grind
  generalize 10 * (10 : Rat) ^ n = N at *
  generalize a ^ (tOf (10 ^ n) 8).toNat = p at *
  generalize mz ((tOf (10 ^ n) 8).toNat + 1) a = u at *
  generalize fc m = f at *
  generalize sc (10 ^ n) (rOf (10 ^ n) x 8) 0 = S at *
  have k1 := Rat.mul_le_mul_of_nonneg_left h2 (Rat.mul_nonneg (Rat.le_of_lt hs) (Rat.le_of_lt h10))
  have k2 := Rat.mul_le_mul_of_nonneg_left h1 (Rat.mul_nonneg (Rat.le_of_lt hs) ha)
  grind

theorem tOf_ten {n : Nat} (hn : 3 ≤ n) : 2 ≤ (tOf (10 ^ n) 8).toNat := by
  unfold tOf
  rw [digs_ten]
  have : (-10 * ((n : Int) + 1)) / (3 * 8) ≤ -2 := by
    have h : (-10 * ((n : Int) + 1)) / (3 * 8) < -1 := Int.ediv_lt_of_lt_mul (by decide) (by omega)
    omega
  omega

/-- the start: the series errs by no more than 128 / 255 and a part of x by M -/
theorem start10 {n : Nat} {x : Int} {w0 X : Rat} (hn : 3 ≤ n) (hX : ((x.natAbs : Int) : Rat) ≤ X * (10 : Rat) ^ n) (hw : 128 / 255 + X / 48 ≤ w0) :
    EL ((x : Rat) / sc (10 ^ n) (rOf (10 ^ n) x 8) 0) (1 + ((iexpY (10 ^ n) x 8 : Rat) + w0) / sc (10 ^ n) (rOf (10 ^ n) x 8) 0) ∧ EG ((x : Rat) / sc (10 ^ n) (rOf (10 ^ n) x 8) 0) (1 + ((iexpY (10 ^ n) x 8 : Rat) - w0) / sc (10 ^ n) (rOf (10 ^ n) x 8) 0) := by
  have hM := ten_pos n
  obtain ⟨a, a0, az, am, ap⟩ := abs_start (x := x) (L := 8) hM
  have e8 : (2 : Rat) ^ (Int.toNat 8) = 256 := by decide +kernel
  have ha : a ≤ 1 / 256 := by rw [e8] at ap; grind
  have r := rest10 (m := 3) a0 ap am (by have := tOf_ten hn; omega)
  rw [fc3] at r
  refine iexp_start (c := 128 / 255) hM (by decide) a0 az (by grind) (by grind) (by grind) ?_
  have h10 := tenQ_pos n
  generalize sc (10 ^ n) (rOf (10 ^ n) x 8) 0 * (5 / 4 * mz ((tOf (10 ^ n) 8).toNat + 1) a) = t at *
  generalize ((x.natAbs : Int) : Rat) = y at *
  generalize (10 : Rat) ^ n = N at *
  have k : t ≤ X / 48 := by
    rcases Classical.em (t ≤ X / 48) with z | z
    · exact z
    · have := Rat.mul_lt_mul_of_pos_right (lt_of_not_le z) h10
      grind
  grind

theorem tab_alg {w N p : Rat} (hp : 0 < p) : 3 / 2 * (w * w) / (1000 * p) * (N * p) = 3 / 2 * (w * w) * (N / 1000) := by grind
/-- _iexp at a power of ten, by a table -/
theorem iexp_tab {n N : Nat} {x : Int} {b W : Nat → Rat} {Λ w0 : Rat} (hn : 3 ≤ n) (hn2 : n ≤ 90) (hx : 0 ≤ x) (hR : rOf (10 ^ n) x 8 ≤ N) (hN : N ≤ 20) (hΛ : (x : Rat) ≤ Λ * (10 : Rat) ^ n) (hw : 128 / 255 + Λ / 48 ≤ w0)
    (hb : ∀ i, i ≤ N → EL (Λ / P i) (b i)) (hb64 : ∀ i, i ≤ N → b i ≤ 63) (hW0 : ∀ i, i ≤ N → w0 ≤ W i) (hw0 : 0 ≤ w0) (hWs : ∀ i, i ≤ N → W i ≤ 100)
    (hW : ∀ i, i < N → 1 / 2 + W (i + 1) * b (i + 1) + 3 / 2 * (W (i + 1) * W (i + 1)) / (1000 * P (i + 1)) ≤ W i) :
    EL ((x : Rat) / (10 : Rat) ^ n) (((iexpF (10 ^ n) x 8 : Rat) + W 0) / (10 : Rat) ^ n) ∧ EG ((x : Rat) / (10 : Rat) ^ n) (((iexpF (10 ^ n) x 8 : Rat) - W 0) / (10 : Rat) ^ n) ∧ PreE (10 ^ n) x 8 := by
  have hM := ten_pos n
  have eM := ten_cast n
  have h10 := tenQ_pos n
  have h1000 : (1000 : Rat) ≤ (10 : Rat) ^ n := by
    have h1 : (10 : Nat) ^ 3 ≤ 10 ^ n := Nat.pow_le_pow_right (by decide) hn
    have h2 : ((10 ^ 3 : Nat) : Rat) ≤ ((10 ^ n : Nat) : Rat) := by exact_mod_cast h1
    push_cast at h2
    grind
  have hxa : ((x.natAbs : Int) : Rat) ≤ Λ * (10 : Rat) ^ n := by
    have e : (x.natAbs : Int) = x := by omega
    rw [e]; exact hΛ
  have hst := start10 (w0 := W (rOf (10 ^ n) x 8)) hn hxa (Rat.le_trans hw (hW0 _ hR))
  have hbR : ∀ i, i ≤ rOf (10 ^ n) x 8 → EL ((x : Rat) / (((10 ^ n : Int) : Rat) * P i)) (b i) := fun i h2 => by
    refine (hb i (by omega)).exp_mono ?_
    rw [eM]
    have hp := P_pos i
    refine div_le (Rat.mul_pos h10 hp) ?_
    have e : Λ / P i * ((10 : Rat) ^ n * P i) = Λ * (10 : Rat) ^ n := by
      generalize (10 : Rat) ^ n = N at *
      generalize P i = p at *
      grind
    rw [e]
    exact hΛ
  have hWn : ∀ i, i ≤ rOf (10 ^ n) x 8 → 0 ≤ W i := fun i hi => by have := hW0 i (by omega); grind
  have hsc : ∀ i, (1000 : Rat) ≤ ((10 ^ n : Int) : Rat) * P i := fun i => by
    have := Rat.mul_le_mul_of_nonneg_left (P_ge1 i) (Rat.le_of_lt h10)
    rw [eM]
    grind
  have hWs' : ∀ i, 1 ≤ i → i ≤ rOf (10 ^ n) x 8 → 2 * W i < ((10 ^ n : Int) : Rat) * P i := fun i h1 h2 => by
    have a := hWs i (by omega)
    have b' := hsc i
    grind
  have hWst : ∀ i, i < rOf (10 ^ n) x 8 → 1 / 2 + W (i + 1) * b (i + 1) + 3 / 2 * (W (i + 1) * W (i + 1)) / (((10 ^ n : Int) : Rat) * P (i + 1)) ≤ W i := fun i hi => by
    refine Rat.le_trans ?_ (hW i (by omega))
    have hp := P_pos (i + 1)
    have k : 3 / 2 * (W (i + 1) * W (i + 1)) / (((10 ^ n : Int) : Rat) * P (i + 1)) ≤ 3 / 2 * (W (i + 1) * W (i + 1)) / (1000 * P (i + 1)) := by
      rw [eM]
      refine div_le (Rat.mul_pos h10 hp) ?_
      have e : 3 / 2 * (W (i + 1) * W (i + 1)) / (1000 * P (i + 1)) * ((10 : Rat) ^ n * P (i + 1)) = 3 / 2 * (W (i + 1) * W (i + 1)) * ((10 : Rat) ^ n / 1000) := by
        exact tab_alg hp
      rw [e]
      have k2 : 1 ≤ (10 : Rat) ^ n / 1000 := le_div (by decide) (by grind)
      have := Rat.mul_le_mul_of_nonneg_left k2 (show 0 ≤ 3 / 2 * (W (i + 1) * W (i + 1)) by have := sq_nonneg (W (i + 1)); grind)
      grind
    grind
  have main := iexp_abs hM hx hst (fun i _ h2 => hbR i h2) hWn hWs' hWst
  have run := iexp_abs_run hM hx hst (fun i _ h2 => hbR i h2) hWn hWs' hWst
  have hb200 : intBits ((10 : Int) ^ n) ≤ 300 := by
    refine intBits_le_iff.mpr ?_
    rw [Int.natAbs_pow]
    have h1 : (10 : Nat) ^ n ≤ 10 ^ 90 := Nat.pow_le_pow_right (by decide) hn2
    have h2 : (10 : Nat) ^ 90 < 2 ^ 300 := by decide +kernel
    exact Nat.lt_of_le_of_lt h1 h2
  rw [eM] at main
  refine ⟨main.1, main.2, ?_⟩
  have hxb : intBits x ≤ 2000 := by
    have sp := rOf_spec (x := x) (L := 8) hM
    have h1 := Int.mul_le_mul_of_nonneg_left (two_pow_ge1 (Int.toNat 8)) (show 0 ≤ (x.natAbs : Int) by omega)
    exact bits_mono (bits_abs (b := 10 ^ n * 2 ^ rOf (10 ^ n) x 8) (by omega) (by omega) (shl_bits (c := 400) hb200 (by omega)))
  refine preE_of (B := 64) hM hb200 (by decide) (by omega) hxb (by decide) (bits_mono (PySem.intBits_le_64 (by decide) (by decide))) (fun j hj => ?_)
  obtain ⟨r1, r2⟩ := run j hj
  have hi : rOf (10 ^ n) x 8 - j ≤ rOf (10 ^ n) x 8 := by omega
  have hb' := hbR (rOf (10 ^ n) x 8 - j) hi
  have es : ((10 ^ n : Int) : Rat) * P (rOf (10 ^ n) x 8 - j) = sc (10 ^ n) (rOf (10 ^ n) x 8) j := rfl
  rw [es] at hb'
  have h63 := hb64 (rOf (10 ^ n) x 8 - j) (by omega)
  have h100 := hWs (rOf (10 ^ n) x 8 - j) (by omega)
  have hss := hsc (rOf (10 ^ n) x 8 - j)
  rw [es] at hss
  exact run_bound (B := ((64 : Int) : Rat)) (sc_pos hM _ _) (by grind) r1 r2 hb' (by have : ((64 : Int) : Rat) = 64 := rfl; rw [this]; grind) (by decide)

end Mine

namespace Mine
open PySem.Builtin.Int (intBits)
/-- what the law's own bounds tell -/
structure BDone (c k p low high : Int) : Prop where
  g : Ex.EG ((c : Rat) / ((10 ^ k.toNat : Int) : Rat)) ((low : Rat) / ((10 ^ (2 * p + 16).toNat : Int) : Rat))
  l : Ex.EL ((c : Rat) / ((10 ^ k.toNat : Int) : Rat)) ((high : Rat) / ((10 ^ (2 * p + 16).toNat : Int) : Rat))
  g1 : 10 ^ (2 * p + 16).toNat ≤ low
  l1 : 10 ^ (2 * p + 16).toNat ≤ high
  g2 : low ≤ 64 * 10 ^ (2 * p + 16).toNat
  l2 : high ≤ 64 * 10 ^ (2 * p + 16).toNat
theorem BDone.of {c k p one low high : Int} {n : Nat} (h : BInv ((c : Rat) / ((10 ^ k.toNat : Int) : Rat)) one n n low high) (h1 : low ≤ 64 * one) (h2 : high ≤ 64 * one) (ho : 10 ^ (2 * p + 16).toNat = one) (hpos : 0 < one) : BDone c k p low high := by
  subst ho
  have g := h.g
  have l := h.l
  rw [Nat.sub_self, Ex.P_zero] at g l
  have e : ∀ x : Rat, x / 1 = x := fun x => by grind
  rw [e] at g l
  exact ⟨g, l, h.g1, h.l1, h1, h2⟩
end Mine

namespace Mine
open PySem.Builtin.Int (intBits)
open Ex

/-- bounds of exp (Λ / 2 ^ i), by squaring -/
theorem tab_sq {Λ : Rat} {b : Nat → Rat} {N : Nat} (h0 : EL (Λ / P N) (b N)) (hs : ∀ i, i < N → b (i + 1) * b (i + 1) ≤ b i) : ∀ j, j ≤ N → EL (Λ / P (N - j)) (b (N - j))
  | 0, _ => h0
  | j + 1, hj => by
    have ih := tab_sq h0 hs j (by omega)
    have e := div_P_half Λ (show j < N by omega)
    rw [e]
    refine (EL.add ih ih).mono ?_
    have e2 : N - j = (N - (j + 1)) + 1 := by omega
    rw [e2]
    exact hs _ (by omega)
theorem tab_all {Λ : Rat} {b : Nat → Rat} {N : Nat} (h0 : EL (Λ / P N) (b N)) (hs : ∀ i, i < N → b (i + 1) * b (i + 1) ≤ b i) (i : Nat) (hi : i ≤ N) : EL (Λ / P i) (b i) := by
  have := tab_sq h0 hs (N - i) (by omega)
  have e : N - (N - i) = i := by omega
  rwa [e] at this

/-- up to log(10) -/
def bA : Nat → Rat
  | 10 => 100226 / 100000 | 9 => 1004526 / 1000000 | 8 => 1009073 / 1000000 | 7 => 1018229 / 1000000 | 6 => 1036791 / 1000000 | 5 => 1074936 / 1000000
  | 4 => 1155488 / 1000000 | 3 => 1335153 / 1000000 | 2 => 1782634 / 1000000 | 1 => 3177785 / 1000000 | _ => 10098318 / 1000000
def wA : Nat → Rat
  | 10 => 56 / 100 | 9 => 10613 / 10000 | 8 => 15662 / 10000 | 7 => 20805 / 10000 | 6 => 26185 / 10000 | 5 => 32150 / 10000
  | 4 => 39565 / 10000 | 3 => 50732 / 10000 | 2 => 72784 / 10000 | 1 => 134946 / 10000 | _ => 43520 / 1000
theorem bA_top : EL ((2303 : Rat) / 1000 / P 10) (bA 10) := (EL.quad (by decide +kernel)).mono (by decide +kernel)
theorem bA_sq : ∀ i : Fin 10, bA ((i : Nat) + 1) * bA ((i : Nat) + 1) ≤ bA (i : Nat) := by decide +kernel
theorem wA_st : ∀ i : Fin 10, 1 / 2 + wA ((i : Nat) + 1) * bA ((i : Nat) + 1) + 3 / 2 * (wA ((i : Nat) + 1) * wA ((i : Nat) + 1)) / (1000 * P ((i : Nat) + 1)) ≤ wA (i : Nat) := by decide +kernel
theorem A_le : ∀ i : Fin 11, bA (i : Nat) ≤ 63 ∧ 56 / 100 ≤ wA (i : Nat) ∧ wA (i : Nat) ≤ 100 := by decide +kernel
theorem iexp_A {n : Nat} {x : Int} (hn : 3 ≤ n) (hn2 : n ≤ 90) (hx : 0 ≤ x) (h : (x : Rat) ≤ 2303 / 1000 * (10 : Rat) ^ n) :
    EL ((x : Rat) / (10 : Rat) ^ n) (((iexpF (10 ^ n) x 8 : Rat) + 43520 / 1000) / (10 : Rat) ^ n) ∧ EG ((x : Rat) / (10 : Rat) ^ n) (((iexpF (10 ^ n) x 8 : Rat) - 43520 / 1000) / (10 : Rat) ^ n) ∧ PreE (10 ^ n) x 8 := by
  have hM := ten_pos n
  have hx2 : 1000 * x ≤ 2303 * 10 ^ n := by
    have k : ((1000 * x : Int) : Rat) ≤ ((2303 * 10 ^ n : Int) : Rat) := by
      have e1 : ((1000 * x : Int) : Rat) = 1000 * (x : Rat) := by push_cast; rfl
      have e2 : ((2303 * 10 ^ n : Int) : Rat) = 2303 * (10 : Rat) ^ n := by push_cast; rfl
      rw [e1, e2]
      generalize (10 : Rat) ^ n = N at *
      grind
    exact Rat.intCast_le_intCast.mp k
  have hR : rOf (10 ^ n) x 8 ≤ 10 := rOf_le_pos hM hx (by
    have e8 : (2 : Int) ^ Int.toNat 8 = 256 := by decide
    have e10 : (2 : Int) ^ 10 = 1024 := by decide
    rw [e8, e10]; omega)
  exact iexp_tab (N := 10) (b := bA) (W := wA) (Λ := 2303 / 1000) (w0 := 56 / 100) hn hn2 hx hR (by decide) h (by decide +kernel)
    (fun i hi => tab_all bA_top (fun j hj => bA_sq ⟨j, hj⟩) i hi) (fun i hi => (A_le ⟨i, by omega⟩).1) (fun i hi => (A_le ⟨i, by omega⟩).2.1) (by decide +kernel) (fun i hi => (A_le ⟨i, by omega⟩).2.2) (fun i hi => wA_st ⟨i, hi⟩)
end Mine

namespace Mine
open PySem.Builtin.Int (intBits)
open Ex

theorem l10_near_nat : ∀ n : Fin 47, 2 * 10 ^ (n : Nat) ≤ l10 ((n : Nat) : Int) ∧ 1000 * l10 ((n : Nat) : Int) ≤ 2303 * 10 ^ (n : Nat) := by decide +kernel
theorem l10_near {q : Int} (h0 : 0 ≤ q) (h1 : q ≤ 46) : 2 * 10 ^ q.toNat ≤ l10 q ∧ 1000 * l10 q ≤ 2303 * 10 ^ q.toNat := by
  obtain ⟨n, rfl⟩ := Int.eq_ofNat_of_zero_le h0
  exact l10_near_nat ⟨n, by omega⟩

theorem sub_alg {c K S : Rat} (hK : 0 < K) (hS : 0 < S) : c / (K * S) * K = c / S := by grind
theorem int_lt_of_rat {a b : Int} (h : (a : Rat) < (b : Rat)) : a < b := by exact_mod_cast h
theorem int_le_of_rat {a b : Int} (h : (a : Rat) ≤ (b : Rat)) : a ≤ b := Rat.intCast_le_intCast.mp h

end Mine

namespace Mine
open PySem.Builtin.Int (intBits)
open Ex

theorem div1000 {I : Int} : 1000 * divN I 1000 ≤ I + 500 ∧ I ≤ 1000 * divN I 1000 + 500 := by
  have := divN_spec (a := I) (b := 1000) (by decide)
  omega

theorem ten1000 {p : Int} (hp : 1 ≤ p) : (1000 : Rat) ≤ (10 : Rat) ^ (p + 2).toNat := by
  have h1 : (10 : Nat) ^ 3 ≤ 10 ^ (p + 2).toNat := Nat.pow_le_pow_right (by decide) (by omega)
  have h2 : ((10 ^ 3 : Nat) : Rat) ≤ ((10 ^ (p + 2).toNat : Nat) : Rat) := by exact_mod_cast h1
  push_cast at h2
  grind

end Mine

namespace Mine
open PySem.Builtin.Int (intBits)
open Ex

end Mine

namespace Mine
open PySem.Builtin.Int (intBits)
open Ex

end Mine

namespace Mine
open PySem.Builtin.Int (intBits)
open Ex

end Mine

namespace Mine
open PySem.Builtin.Int (intBits)
open Ex

theorem EL.powN {q c : Rat} (h : EL q c) : ∀ n : Nat, EL ((n : Rat) * q) (c ^ n)
  | 0 => by
    have e : ((0 : Nat) : Rat) * q = 0 := by have : ((0 : Nat) : Rat) = 0 := rfl; rw [this]; grind
    rw [e, Rat.pow_zero]; exact EL.zero
  | n + 1 => by
    have e : ((n + 1 : Nat) : Rat) * q = (n : Rat) * q + q := by push_cast; grind
    rw [e, Rat.pow_succ]
    exact (EL.powN h n).add h
theorem EG.powN {q c : Rat} (h : EG q c) (hc : 0 < c) : ∀ n : Nat, EG ((n : Rat) * q) (c ^ n)
  | 0 => by
    have e : ((0 : Nat) : Rat) * q = 0 := by have : ((0 : Nat) : Rat) = 0 := rfl; rw [this]; grind
    rw [e, Rat.pow_zero]; exact EG.zero
  | n + 1 => by
    have e : ((n + 1 : Nat) : Rat) * q = (n : Rat) * q + q := by push_cast; grind
    rw [e, Rat.pow_succ]
    exact EG.add (EG.powN h hc n) h hc

/-- what the law adds for one doubling -/
def lbT (x M : Int) (k : Nat) : Int := 10 ^ 6 * (32 * (M * 2 ^ k)) ^ 32 / (2 * (32 * (M * 2 ^ k) + x) ^ 32) + 1
def lb (x M : Int) : Nat → Int
  | 0 => 1200010 + 10 ^ 6 * (x.natAbs : Int) / (16 * M) + 1
  | k + 1 => lb x M k + lbT x M k

end Mine

namespace Mine
open PySem.Builtin.Int (intBits)
open Ex

/-- ten to a whole power, of either sign -/
def tz (s : Int) : Rat := (10 : Rat) ^ s.toNat / (10 : Rat) ^ (-s).toNat
theorem tz_pos (s : Int) : 0 < tz s := div_pos (tenQ_pos _) (tenQ_pos _)
theorem tz_alg {a b c d e f : Rat} (hb : 0 < b) (hd : 0 < d) (hf : 0 < f) (h : a * (d * f) = c * e * b) : a / b = c / d * (e / f) := by
  have hdf := Rat.mul_pos hd hf
  have e1 : c / d * (e / f) = c * e / (d * f) := by grind
  rw [e1]
  refine Rat.le_antisymm (le_div hdf ?_) (div_le hdf ?_)
  · have : a / b * (d * f) = a * (d * f) / b := by grind
    rw [this]
    exact div_le hb (by grind)
  · have : a / b * (d * f) = a * (d * f) / b := by grind
    rw [this]
    exact le_div hb (by grind)
theorem tz_add (a b : Int) : tz (a + b) = tz a * tz b := by
  unfold tz
  refine tz_alg (tenQ_pos _) (tenQ_pos _) (tenQ_pos _) ?_
  rw [← pow_add', ← pow_add', ← pow_add', ← pow_add']
  congr 1
  omega
theorem tz_nat {a : Int} (h : 0 ≤ a) : tz a = (10 : Rat) ^ a.toNat := by
  unfold tz
  have : (-a).toNat = 0 := by omega
  rw [this, Rat.pow_zero]
  grind
theorem tz_zero : tz 0 = 1 := by decide +kernel
theorem tz_neg (a : Int) : tz (-a) = 1 / tz a := by
  have h := tz_add a (-a)
  have e : a + -a = 0 := by omega
  rw [e, tz_zero] at h
  have := tz_pos a
  grind
theorem tz_negn (k : Nat) : tz (-(k : Int)) = 1 / (10 : Rat) ^ k := by
  rw [tz_neg, tz_nat (by omega)]
  rfl

/-- ten to a whole power, by the cut figures of log(10) -/
theorem tz_EL {q : Int} (h0 : 0 ≤ q) (h1 : q ≤ 46) {z : Int} {n : Rat} (hn : 0 ≤ n) (hz : -n ≤ (z : Rat)) : EL (((z : Rat) * (l10 q : Rat) - n) / (10 : Rat) ^ q.toNat) (tz z) := by
  obtain ⟨a, b⟩ := l10_spec h0 h1
  have hq := tenQ_pos q.toNat
  rcases Int.lt_or_le z 0 with hs | hs
  · obtain ⟨k, hk⟩ := Int.eq_ofNat_of_zero_le (show 0 ≤ -z by omega)
    have ez : z = -(k : Int) := by omega
    rw [ez, tz_negn]
    refine ((EG.powN b (by decide) k).neg (tenQ_pos k)).exp_mono ?_
    have ek : (((-(k : Int)) : Int) : Rat) = -((k : Nat) : Rat) := by push_cast; rfl
    rw [ez, ek] at hz
    rw [ek]
    generalize ((k : Nat) : Rat) = k at *
    generalize (l10 q : Rat) = l at *
    generalize (10 : Rat) ^ q.toNat = Q at *
    refine div_le hq ?_
    have e : -(k * ((l + 1) / Q)) * Q = -(k * (l + 1)) := by grind
    rw [e]
    grind
  · obtain ⟨k, rfl⟩ := Int.eq_ofNat_of_zero_le hs
    rw [tz_nat (by omega)]
    refine (EL.powN a k).exp_mono ?_
    have ek : (((k : Int)) : Rat) = ((k : Nat) : Rat) := rfl
    rw [ek]
    generalize ((k : Nat) : Rat) = k at *
    generalize (l10 q : Rat) = l at *
    generalize (10 : Rat) ^ q.toNat = Q at *
    refine div_le hq ?_
    have e : k * (l / Q) * Q = k * l := by grind
    rw [e]
    grind
theorem tz_EG {q : Int} (h0 : 0 ≤ q) (h1 : q ≤ 46) {z : Int} {n : Rat} (hn : 0 ≤ n) (hz : (z : Rat) ≤ n) : EG (((z : Rat) * (l10 q : Rat) + n) / (10 : Rat) ^ q.toNat) (tz z) := by
  obtain ⟨a, b⟩ := l10_spec h0 h1
  have hq := tenQ_pos q.toNat
  rcases Int.lt_or_le z 0 with hs | hs
  · obtain ⟨k, hk⟩ := Int.eq_ofNat_of_zero_le (show 0 ≤ -z by omega)
    have ez : z = -(k : Int) := by omega
    rw [ez, tz_negn]
    refine ((EL.powN a k).neg).exp_mono ?_
    have ek : (((-(k : Int)) : Int) : Rat) = -((k : Nat) : Rat) := by push_cast; rfl
    rw [ek]
    generalize ((k : Nat) : Rat) = k at *
    generalize (l10 q : Rat) = l at *
    generalize (10 : Rat) ^ q.toNat = Q at *
    refine le_div hq ?_
    have e : -(k * (l / Q)) * Q = -(k * l) := by grind
    rw [e]
    grind
  · obtain ⟨k, rfl⟩ := Int.eq_ofNat_of_zero_le hs
    rw [tz_nat (by omega)]
    refine (EG.powN b (by decide) k).exp_mono ?_
    have ek : (((k : Int)) : Rat) = ((k : Nat) : Rat) := rfl
    rw [ek] at hz ⊢
    generalize ((k : Nat) : Rat) = k at *
    generalize (l10 q : Rat) = l at *
    generalize (10 : Rat) ^ q.toNat = Q at *
    refine le_div hq ?_
    have e : k * ((l + 1) / Q) * Q = k * (l + 1) := by grind
    rw [e]
    grind

/-- c shifted, cut downwards; any extra -/
theorem dxC_gen {c k p x : Int} (hk : 0 ≤ k) (hp : 0 ≤ p) (hX : dxX c (-k) = x) (hx : 0 ≤ x) :
    ((dxC c (-k) p : Int) : Rat) ≤ (c : Rat) / (10 : Rat) ^ k.toNat * (10 : Rat) ^ (p + 2 + x).toNat ∧ (c : Rat) / (10 : Rat) ^ k.toNat * (10 : Rat) ^ (p + 2 + x).toNat < ((dxC c (-k) p : Int) : Rat) + 1 := by
  unfold dxC
  rw [hX]
  rcases Int.lt_or_le (-k + (p + 2 + x)) 0 with h | h
  · rw [if_neg (by omega)]
    have hp10 := ten_pos (-(-k + (p + 2 + x))).toNat
    obtain ⟨a, b⟩ := ediv_rat (a := c) hp10
    rw [ten_cast] at a b
    have e : (c : Rat) / (10 : Rat) ^ k.toNat * (10 : Rat) ^ (p + 2 + x).toNat = (c : Rat) / (10 : Rat) ^ (-(-k + (p + 2 + x))).toNat := by
      have e2 : k.toNat = (p + 2 + x).toNat + (-(-k + (p + 2 + x))).toNat := by omega
      rw [e2, pow_add']
      exact sub_alg (tenQ_pos _) (tenQ_pos _)
    rw [e]
    exact ⟨a, b⟩
  · rw [if_pos h]
    have e : (c : Rat) / (10 : Rat) ^ k.toNat * (10 : Rat) ^ (p + 2 + x).toNat = ((c * 10 ^ (-k + (p + 2 + x)).toNat : Int) : Rat) := by
      have e2 : (p + 2 + x).toNat = k.toNat + (-k + (p + 2 + x)).toNat := by omega
      rw [e2, pow_add', rat_mul_cast, ten_cast]
      have := tenQ_pos k.toNat
      generalize (10 : Rat) ^ k.toNat = K at *
      generalize (10 : Rat) ^ (-k + (p + 2 + x)).toNat = S at *
      grind
    rw [e]
    constructor
    · exact Rat.le_refl
    · grind

theorem l10_near3_nat : ∀ n : Fin 47, 3 ≤ (n : Nat) → 2302 * 10 ^ (n : Nat) ≤ 1000 * l10 ((n : Nat) : Int) := by decide +kernel
theorem l10_near3 {q : Int} (h0 : 3 ≤ q) (h1 : q ≤ 46) : 2302 * 10 ^ q.toNat ≤ 1000 * l10 q := by
  obtain ⟨n, rfl⟩ := Int.eq_ofNat_of_zero_le (show 0 ≤ q by omega)
  exact l10_near3_nat ⟨n, by omega⟩ (show 3 ≤ n by omega)

/-- how great the whole part can be -/
theorem quot_bd {C l t X : Int} (ht : 0 < t) (hX : 0 < X) (hl : 2302 * t ≤ 1000 * l) (h1 : C ≤ 10 * X * t) (h2 : -(10 * X * t) ≤ C) : 1000 * (C / l) ≤ 4345 * X ∧ -(4345 * X) ≤ 1000 * (C / l + 1) := by
  have hl0 : 0 < l := by omega
  have hm := Int.mul_ediv_add_emod C l
  have m0 := Int.emod_nonneg C (show l ≠ 0 by omega)
  have m1 := Int.emod_lt_of_pos C hl0
  have hXt : 0 < X * t := Int.mul_pos hX ht
  have e10 : 10 * X * t = 10 * (X * t) := by rw [Int.mul_assoc]
  rw [e10] at h1 h2
  constructor
  · rcases Int.lt_or_le (4345 * X) (1000 * (C / l)) with h | h
    · exfalso
      have a := Int.mul_le_mul_of_nonneg_left hl (show 0 ≤ 1000 * (C / l) by omega)
      have b := Int.mul_le_mul_of_nonneg_right (show 4345 * X ≤ 1000 * (C / l) by omega) (show 0 ≤ 2302 * t by omega)
      have e1 : 4345 * X * (2302 * t) = 10002190 * (X * t) := by grind
      have e2 : 1000 * (C / l) * (1000 * l) = 1000000 * (l * (C / l)) := by grind
      omega
    · exact h
  · rcases Int.lt_or_le (1000 * (C / l + 1)) (-(4345 * X)) with h | h
    · exfalso
      have a := Int.mul_le_mul_of_nonneg_left hl (show 0 ≤ -(1000 * (C / l + 1)) by omega)
      have b := Int.mul_le_mul_of_nonneg_right (show 4345 * X ≤ -(1000 * (C / l + 1)) by omega) (show 0 ≤ 2302 * t by omega)
      have e1 : 4345 * X * (2302 * t) = 10002190 * (X * t) := by grind
      have e2 : -(1000 * (C / l + 1)) * (1000 * l) = -(1000000 * (l * (C / l) + l)) := by grind
      omega
    · exact h

theorem shift_up7 {q v I M W s : Rat} (hM : 1000 ≤ M) (hs0 : 0 ≤ s) (hs : s ≤ 7) (h : EL q ((I + W) / M)) (hv : v ≤ q + s / M) (hb : (I + W) ≤ 11 * M) : EL v ((I + (W + s * (I + W) / M + 11 / 10)) / M) := by
  have hM0 : 0 < M := by grind
  have hx : s / M ≤ 1 / 2 := div_le hM0 (by grind)
  have k := (EL.add h (EL.quad hx)).exp_mono hv
  refine k.mono ?_
  have hp := h.pos
  refine le_div hM0 ?_
  have e : (I + W) / M * (1 + s / M + 2 * (s / M * (s / M))) * M = I + W + s * (I + W) / M + 2 * s * (s / M) * ((I + W) / M) := by grind
  rw [e]
  have m1 : (I + W) / M ≤ 11 := div_le hM0 (by grind)
  have m2 : s / M ≤ 7 / 1000 := div_le hM0 (by grind)
  have m3 : 0 ≤ s / M := div_nn hs0 hM0
  have m4 := Rat.mul_le_mul_of_nonneg_left m1 (show 0 ≤ 2 * s * (s / M) from Rat.mul_nonneg (by grind) m3)
  have m5 := Rat.mul_le_mul_of_nonneg_left m2 (show 0 ≤ 2 * s by grind)
  have m6 : 2 * s * (s / M) * 11 ≤ 11 / 10 := by grind
  grind
end Mine

namespace Mine
open PySem.Builtin.Int (intBits)
open Ex

theorem c_size {c k x : Int} (hk : 0 ≤ k) (hX : dxX c (-k) = x) (hx : 0 ≤ x) : (c.natAbs : Int) < 10 ^ (x + 1 + k).toNat := by
  have hd : digs c ≤ ((x + 1 + k).toNat : Int) := by
    unfold dxX at hX
    split at hX <;> omega
  have hn : 0 < (x + 1 + k).toNat := by omega
  rcases Int.lt_or_le c 0 with h | h
  · obtain ⟨m, hm⟩ := Int.eq_ofNat_of_zero_le (show 0 ≤ -c by omega)
    have ec : c = -(m : Int) := by omega
    rw [ec, digs_neg (by omega)] at hd
    have := (digs_iff (M := (m : Int)) (by omega) hn).mp (by omega)
    omega
  · have := (digs_iff h hn).mp hd
    omega

theorem alg_up {C l rem R Q X n s t M v : Rat} (hX : 1 ≤ X) (hM : 0 < M) (ht : t = M * X) (hn : n = 5345 / 1000 * X) (hs : s = 6845 / 1000) (hC : C = l * Q + rem) (hr : 2 * (rem - X * R) ≤ X) (hv : v * t < C + 1) :
    v ≤ (Q * l - n) / t + (R / M + s / M) := by
  have ht0 : 0 < t := by rw [ht]; exact Rat.mul_pos hM (by grind)
  have e : (Q * l - n) / t + (R / M + s / M) = (Q * l - n + R * X + s * X) / t := by
    have : R / M = R * X / t := by rw [ht]; grind
    rw [this]
    have : s / M = s * X / t := by rw [ht]; grind
    rw [this]
    grind
  rw [e]
  refine le_div ht0 ?_
  clear e ht ht0
  generalize v * t = y at *
  subst hs hn hC
  have e1 : 6845 / 1000 * X = 5345 / 1000 * X + 3 / 2 * X := by grind
  rw [e1]
  grind
theorem alg_dn {C l rem R Q X n s t M v : Rat} (hX : 1 ≤ X) (hM : 0 < M) (ht : t = M * X) (hn : n = 4345 / 1000 * X) (hs : s = 4845 / 1000) (hC : C = l * Q + rem) (hr : -X ≤ 2 * (rem - X * R)) (hv : C ≤ v * t) :
    (Q * l + n) / t + (R / M + -(s / M)) ≤ v := by
  have ht0 : 0 < t := by rw [ht]; exact Rat.mul_pos hM (by grind)
  have e : (Q * l + n) / t + (R / M + -(s / M)) = (Q * l + n + R * X - s * X) / t := by
    have : R / M = R * X / t := by rw [ht]; grind
    rw [this]
    have : s / M = s * X / t := by rw [ht]; grind
    rw [this]
    grind
  rw [e]
  refine div_le ht0 ?_
  clear e ht ht0
  generalize v * t = y at *
  subst hs hn hC
  have e1 : 4845 / 1000 * X = 4345 / 1000 * X + 1 / 2 * X := by grind
  rw [e1]
  grind

theorem I2_alg {I M : Rat} (hM : 1000 ≤ M) (h : (I - 43520 / 1000) / M ≤ 10 * (1 + 1 / 2 / M + 2 * (1 / 2 / M * (1 / 2 / M)))) : I ≤ 10 * M + 50 := by
  have hM0 : 0 < M := by grind
  have k1 := div_le_mul hM0 h
  have h5 : 1 / 2 / M * M = 1 / 2 := Rat.div_mul_cancel (by grind)
  have h6 : 1 / 2 / M ≤ 1 / 1000 := div_le hM0 (by grind)
  generalize 1 / 2 / M = y at *
  have e : 10 * (1 + y + 2 * (y * y)) * M = 10 * M + 10 * (y * M) + 20 * (y * (y * M)) := by grind
  rw [e, h5] at k1
  clear h e h5
  grind
theorem I1_alg {I M R : Rat} (hM : 1000 ≤ M) (hR : 0 ≤ R) (h : 1 + R / M ≤ (I + 43520 / 1000) / M) : M ≤ I + 43520 / 1000 := by
  have hM0 : 0 < M := by grind
  have k1 := le_div_mul hM0 h
  have e : (1 + R / M) * M = M + R := by grind
  rw [e] at k1
  clear h e
  grind
/-- how near _dexp comes -/
structure DSpec (c k p : Int) : Prop where
  pre : PreE (10 ^ (p + 2).toNat) (dxR c (-k) p) 8
  l : EL ((c : Rat) / (10 : Rat) ^ k.toNat) ((1000 * (dexpD c (-k) p : Rat) + 615) / 1000 * tz (dexpE c (-k) p))
  g : EG ((c : Rat) / (10 : Rat) ^ k.toNat) ((1000 * (dexpD c (-k) p : Rat) - 615) / 1000 * tz (dexpE c (-k) p))
  d1 : 10 ^ (p - 1).toNat ≤ dexpD c (-k) p
  d2 : dexpD c (-k) p ≤ 10 ^ p.toNat
  q1 : 1000 * (dexpE c (-k) p - (1 - p)) ≤ 4345 * 10 ^ (dxX c (-k)).toNat
  q2 : -(5345 * 10 ^ (dxX c (-k)).toNat) ≤ 1000 * (dexpE c (-k) p - (1 - p))

theorem rat_add_cast (a b : Int) : ((a + b : Int) : Rat) = (a : Rat) + (b : Rat) := by push_cast; rfl

theorem dexp_spec {c k p x : Int} (hk : 0 ≤ k) (hp : 1 ≤ p) (hX : dxX c (-k) = x) (hx : 0 ≤ x) (hq : p + 2 + x ≤ 46) : DSpec c k p := by
  obtain ⟨C, hC⟩ : ∃ C, dxC c (-k) p = C := ⟨_, rfl⟩
  obtain ⟨a, b⟩ := dxC_gen hk (by omega : 0 ≤ p) hX hx
  rw [hC] at a b
  have hsz := c_size hk hX hx
  -- the scales
  have hM := ten_pos (p + 2).toNat
  have hXp := ten_pos x.toNat
  have ht := ten_pos (p + 2 + x).toNat
  have hMQ := tenQ_pos (p + 2).toNat
  have hXQ := tenQ_pos x.toNat
  have htQ := tenQ_pos (p + 2 + x).toNat
  have hKQ := tenQ_pos k.toNat
  have etI : (10 : Int) ^ (p + 2 + x).toNat = 10 ^ (p + 2).toNat * 10 ^ x.toNat := by
    rw [← Int.pow_add]; congr 1; omega
  have etQ : (10 : Rat) ^ (p + 2 + x).toNat = (10 : Rat) ^ (p + 2).toNat * (10 : Rat) ^ x.toNat := by
    rw [← pow_add']; congr 1; omega
  have eM3 : (10 : Int) ^ (p + 2).toNat = 1000 * 10 ^ (p - 1).toNat := by
    have : (p + 2).toNat = 3 + (p - 1).toNat := by omega
    rw [this, Int.pow_add]; rfl
  have eMp : (10 : Int) ^ (p + 2).toNat * 10 = 1000 * 10 ^ p.toNat := by
    have : (p + 2).toNat = 2 + p.toNat := by omega
    rw [this, Int.pow_add]
    have : (10 : Int) ^ 2 = 100 := by decide
    rw [this]; omega
  have hX1 : (1 : Rat) ≤ (10 : Rat) ^ x.toNat := by
    have := castle (show 1 ≤ (10 : Int) ^ x.toNat by omega)
    rw [ten_cast] at this
    exact this
  have hM1 := ten1000 hp
  -- the size of C
  have hcs : (10 : Rat) ^ (x + 1 + k).toNat = 10 * (10 : Rat) ^ x.toNat * (10 : Rat) ^ k.toNat := by
    have : (x + 1 + k).toNat = 1 + x.toNat + k.toNat := by omega
    rw [this, pow_add', pow_add']
    have : (10 : Rat) ^ 1 = 10 := by decide +kernel
    rw [this]
  have c1 : (c : Rat) ≤ 10 * (10 : Rat) ^ x.toNat * (10 : Rat) ^ k.toNat := by
    have := castle (show c ≤ 10 ^ (x + 1 + k).toNat by omega)
    rw [ten_cast, hcs] at this
    exact this
  have c2 : -(10 * (10 : Rat) ^ x.toNat * (10 : Rat) ^ k.toNat) ≤ (c : Rat) := by
    have := castle (show -(10 ^ (x + 1 + k).toNat) ≤ c by omega)
    rw [Rat.intCast_neg, ten_cast, hcs] at this
    exact this
  have v1 : (c : Rat) / (10 : Rat) ^ k.toNat ≤ 10 * (10 : Rat) ^ x.toNat := div_le hKQ c1
  have v2 : -(10 * (10 : Rat) ^ x.toNat) ≤ (c : Rat) / (10 : Rat) ^ k.toNat := le_div hKQ (by
    generalize (10 : Rat) ^ x.toNat = X at *
    generalize (10 : Rat) ^ k.toNat = K at *
    grind)
  have w1 := Rat.mul_le_mul_of_nonneg_right v1 (Rat.le_of_lt htQ)
  have w2 := Rat.mul_le_mul_of_nonneg_right v2 (Rat.le_of_lt htQ)
  have eI : ((10 * 10 ^ x.toNat * 10 ^ (p + 2 + x).toNat : Int) : Rat) = 10 * (10 : Rat) ^ x.toNat * (10 : Rat) ^ (p + 2 + x).toNat := by push_cast; rfl
  have C1 : C ≤ 10 * 10 ^ x.toNat * 10 ^ (p + 2 + x).toNat := by
    refine int_le_of_rat ?_
    rw [eI]
    exact Rat.le_trans a w1
  have C2 : -(10 * 10 ^ x.toNat * 10 ^ (p + 2 + x).toNat) ≤ C := by
    have : ((-(10 * 10 ^ x.toNat * 10 ^ (p + 2 + x).toNat) : Int) : Rat) < ((C + 1 : Int) : Rat) := by
      rw [Rat.intCast_neg, eI, rat_add_cast]
      have e1 : ((1 : Int) : Rat) = 1 := rfl
      rw [e1]
      generalize (c : Rat) / (10 : Rat) ^ k.toNat * (10 : Rat) ^ (p + 2 + x).toNat = vt at *
      grind
    have := int_lt_of_rat this
    omega
  -- the parts
  obtain ⟨l1, l2⟩ := l10_near (q := p + 2 + x) (by omega) hq
  have l3 := l10_near3 (q := p + 2 + x) (by omega) hq
  obtain ⟨q1, q2⟩ := quot_bd ht hXp l3 C1 C2
  have hEL := tz_EL (q := p + 2 + x) (z := C / l10 (p + 2 + x)) (n := 5345 / 1000 * (10 : Rat) ^ x.toNat) (by omega) hq (by grind) (by
    have := castle (show -(5345 * 10 ^ x.toNat) ≤ 1000 * (C / l10 (p + 2 + x)) by omega)
    rw [Rat.intCast_neg, rat_mul_cast, rat_mul_cast, ten_cast] at this
    have e1 : ((5345 : Int) : Rat) = 5345 := rfl
    have e2 : ((1000 : Int) : Rat) = 1000 := rfl
    rw [e1, e2] at this
    generalize (10 : Rat) ^ x.toNat = X at *
    generalize ((C / l10 (p + 2 + x) : Int) : Rat) = Q at *
    grind)
  have hEG := tz_EG (q := p + 2 + x) (z := C / l10 (p + 2 + x)) (n := 4345 / 1000 * (10 : Rat) ^ x.toNat) (by omega) hq (by grind) (by
    have := castle q1
    rw [rat_mul_cast, rat_mul_cast, ten_cast] at this
    have e1 : ((4345 : Int) : Rat) = 4345 := rfl
    have e2 : ((1000 : Int) : Rat) = 1000 := rfl
    rw [e1, e2] at this
    generalize (10 : Rat) ^ x.toNat = X at *
    generalize ((C / l10 (p + 2 + x) : Int) : Rat) = Q at *
    grind)
  have l0 : 0 < l10 (p + 2 + x) := by omega
  have hm := Int.mul_ediv_add_emod C (l10 (p + 2 + x))
  have m0 := Int.emod_nonneg C (show l10 (p + 2 + x) ≠ 0 by omega)
  have m1 := Int.emod_lt_of_pos C l0
  have eR : dxR c (-k) p = divN (C % l10 (p + 2 + x)) (10 ^ x.toNat) := by unfold dxR; rw [hX, hC]
  have eQ : dxQ c (-k) p = C / l10 (p + 2 + x) := by unfold dxQ; rw [hX, hC]
  obtain ⟨r1, r2⟩ := divN_spec (a := C % l10 (p + 2 + x)) (b := 10 ^ x.toNat) hXp
  rw [← eR] at r1 r2
  obtain ⟨R, hR⟩ : ∃ R, dxR c (-k) p = R := ⟨_, rfl⟩
  rw [hR] at r1 r2
  -- the remainder's size
  have R0 : 0 ≤ R := by
    rcases Int.lt_or_le R 0 with h | h
    · exfalso
      have := Int.mul_le_mul_of_nonneg_left (show R ≤ -1 by omega) (Int.le_of_lt hXp)
      omega
    · exact h
  have R1 : R ≤ 2303 * 10 ^ (p - 1).toNat := by
    rcases Int.lt_or_le (2303 * 10 ^ (p - 1).toNat) R with h | h
    · exfalso
      have := Int.mul_le_mul_of_nonneg_left (show 2303 * 10 ^ (p - 1).toNat + 1 ≤ R by omega) (Int.le_of_lt hXp)
      rw [etI, eM3] at l2
      have e1 : 2303 * (1000 * (10 : Int) ^ (p - 1).toNat * 10 ^ x.toNat) = 1000 * (10 ^ x.toNat * (2303 * 10 ^ (p - 1).toNat)) := by grind
      rw [e1] at l2
      rw [Int.mul_add] at this
      omega
    · exact h
  have R1Q : (R : Rat) ≤ 2303 / 1000 * (10 : Rat) ^ (p + 2).toNat := by
    have k1 := castle R1
    have e := congrArg (fun z : Int => (z : Rat)) eM3
    simp only [ten_cast, rat_mul_cast] at e k1
    have e1 : ((2303 : Int) : Rat) = 2303 := rfl
    have e2 : ((1000 : Int) : Rat) = 1000 := rfl
    rw [e1] at k1
    rw [e2] at e
    rw [e]
    generalize (10 : Rat) ^ (p - 1).toNat = T at *
    grind
  obtain ⟨i1, i2, i3⟩ := iexp_A (n := (p + 2).toNat) (x := R) (by omega) (by omega) R0 R1Q
  obtain ⟨d1, d2⟩ := div1000 (I := iexpF (10 ^ (p + 2).toNat) R 8)
  have hD : dexpD c (-k) p = divN (iexpF (10 ^ (p + 2).toNat) R 8) 1000 := by unfold dexpD; rw [hR]
  have hE : dexpE c (-k) p = C / l10 (p + 2 + x) + (1 - p) := by unfold dexpE; rw [eQ]; omega
  rw [← hD] at d1 d2
  obtain ⟨I, hI⟩ : ∃ I, iexpF (10 ^ (p + 2).toNat) R 8 = I := ⟨_, rfl⟩
  rw [hI] at i1 i2 d1 d2
  obtain ⟨d, hd⟩ : ∃ d, dexpD c (-k) p = d := ⟨_, rfl⟩
  rw [hd] at d1 d2
  -- casts
  have cr1 : -((10 : Rat) ^ x.toNat) ≤ 2 * (((C % l10 (p + 2 + x) : Int) : Rat) - (10 : Rat) ^ x.toNat * (R : Rat)) := by
    have := castle r1
    push_cast at this
    exact this
  have cr2 : 2 * (((C % l10 (p + 2 + x) : Int) : Rat) - (10 : Rat) ^ x.toNat * (R : Rat)) ≤ (10 : Rat) ^ x.toNat := by
    have := castle r2
    push_cast at this
    exact this
  have chm : (C : Rat) = (l10 (p + 2 + x) : Rat) * ((C / l10 (p + 2 + x) : Int) : Rat) + ((C % l10 (p + 2 + x) : Int) : Rat) := by
    rw [← rat_mul_cast, ← rat_add_cast, hm]
  have up := alg_up (n := 5345 / 1000 * (10 : Rat) ^ x.toNat) (s := 6845 / 1000) hX1 hMQ etQ rfl rfl chm cr2 b
  have dn := alg_dn (n := 4345 / 1000 * (10 : Rat) ^ x.toNat) (s := 4845 / 1000) hX1 hMQ etQ rfl rfl chm cr1 a
  have l10c : EL ((R : Rat) / (10 : Rat) ^ (p + 2).toNat) (10 * (1 + 1 / 2 / (10 : Rat) ^ (p + 2).toNat + 2 * (1 / 2 / (10 : Rat) ^ (p + 2).toNat * (1 / 2 / (10 : Rat) ^ (p + 2).toNat)))) := by
    have hh : 1 / 2 / (10 : Rat) ^ (p + 2).toNat ≤ 1 / 2 := div_le hMQ (by grind)
    refine (EL.add (l10_spec (q := p + 2 + x) (by omega) hq).1 (EL.quad hh)).exp_mono ?_
    have cm1 := castle (Int.le_of_lt m1)
    rw [etQ]
    generalize ((C % l10 (p + 2 + x) : Int) : Rat) = rem at *
    generalize (l10 (p + 2 + x) : Rat) = l at *
    generalize (10 : Rat) ^ (p + 2).toNat = M at *
    generalize (10 : Rat) ^ x.toNat = X at *
    generalize (R : Rat) = R at *
    clear hEL hEG i1 i2 up dn a b
    refine div_le hMQ ?_
    have e : (l / (M * X) + 1 / 2 / M) * M = l / X + 1 / 2 := by grind
    rw [e]
    have : R - 1 / 2 ≤ l / X := le_div hXQ (by grind)
    grind
  have I2 : (I : Rat) ≤ 10 * (10 : Rat) ^ (p + 2).toNat + 50 := I2_alg hM1 (i2.le l10c)
  have I1 : (10 : Rat) ^ (p + 2).toNat ≤ (I : Rat) + 43520 / 1000 := I1_alg hM1 (castnn R0) ((EG.one_add _).le i1)
  have hIW : (I : Rat) + 43520 / 1000 ≤ 11 * (10 : Rat) ^ (p + 2).toNat := by grind
  have su := shift_up7 (s := 6845 / 1000) hM1 (by decide +kernel) (by decide +kernel) i1 Rat.le_refl hIW
  have sd := EG.add i2 (EG.one_add (-(4845 / 1000 / (10 : Rat) ^ (p + 2).toNat))) (by
    have : 4845 / 1000 / (10 : Rat) ^ (p + 2).toNat ≤ 1 / 2 := div_le hMQ (by grind)
    generalize 4845 / 1000 / (10 : Rat) ^ (p + 2).toNat = y at *
    grind)
  have fu := (EL.add hEL su).exp_mono up
  have sdp : 0 < ((I : Rat) - 43520 / 1000) / (10 : Rat) ^ (p + 2).toNat * (1 + -(4845 / 1000 / (10 : Rat) ^ (p + 2).toNat)) := by
    refine Rat.mul_pos (div_pos ?_ hMQ) ?_
    · grind
    · have : 4845 / 1000 / (10 : Rat) ^ (p + 2).toNat ≤ 1 / 2 := div_le hMQ (by grind)
      generalize 4845 / 1000 / (10 : Rat) ^ (p + 2).toNat = y at *
      grind
  have fd := (EG.add hEG sd sdp).exp_mono dn
  have etz : tz (C / l10 (p + 2 + x) + (1 - p)) = tz (C / l10 (p + 2 + x)) * (1000 / (10 : Rat) ^ (p + 2).toNat) := by
    rw [tz_add]
    congr 1
    have e1 : (1 - p) = -((p - 1).toNat : Int) := by omega
    rw [e1, tz_negn]
    have e := congrArg (fun z : Int => (z : Rat)) eM3
    simp only [ten_cast, rat_mul_cast] at e
    have e2 : ((1000 : Int) : Rat) = 1000 := rfl
    rw [e2] at e
    rw [e]
    have := tenQ_pos (p - 1).toNat
    generalize (10 : Rat) ^ (p - 1).toNat = T at *
    grind
  have cd1 : 1000 * (d : Rat) ≤ (I : Rat) + 500 := by
    have := castle d1
    rw [rat_mul_cast, rat_add_cast] at this
    exact this
  have cd2 : (I : Rat) ≤ 1000 * (d : Rat) + 500 := by
    have := castle d2
    rw [rat_add_cast, rat_mul_cast] at this
    exact this
  have tq := tz_pos (C / l10 (p + 2 + x))
  refine ⟨by rw [hR]; exact i3, ?_, ?_, ?_, ?_, by rw [hE, hX]; omega, by rw [hE, hX]; omega⟩
  · rw [hE, etz, hd]
    refine fu.mono ?_
    generalize tz (C / l10 (p + 2 + x)) = τ at *
    generalize (10 : Rat) ^ (p + 2).toNat = M at *
    generalize (I : Rat) = I at *
    generalize (d : Rat) = d at *
    clear hEL hEG i1 i2 up dn a b l10c su sd fu fd sdp w1 w2
    have e : (1000 * d + 615) / 1000 * (τ * (1000 / M)) = τ * ((1000 * d + 615) / M) := by grind
    rw [e]
    refine Rat.mul_le_mul_of_nonneg_left (div_mono hMQ ?_) (Rat.le_of_lt tq)
    have k3 : 6845 / 1000 * (I + 43520 / 1000) / M ≤ 6845 / 1000 * (10 + 94 / 1000) := div_le hMQ (by grind)
    generalize 6845 / 1000 * (I + 43520 / 1000) / M = z at *
    grind
  · rw [hE, etz, hd]
    refine fd.mono ?_
    generalize tz (C / l10 (p + 2 + x)) = τ at *
    generalize (10 : Rat) ^ (p + 2).toNat = M at *
    generalize (I : Rat) = I at *
    generalize (d : Rat) = d at *
    clear hEL hEG i1 i2 up dn a b l10c su sd fu fd sdp w1 w2
    have e : (1000 * d - 615) / 1000 * (τ * (1000 / M)) = τ * ((1000 * d - 615) / M) := by grind
    rw [e]
    refine Rat.mul_le_mul_of_nonneg_left ?_ (Rat.le_of_lt tq)
    refine div_le hMQ ?_
    have k3 : 4845 / 1000 * (I - 43520 / 1000) / M ≤ 4845 / 1000 * (10 + 94 / 1000) := div_le hMQ (by grind)
    have e2 : (I - 43520 / 1000) / M * (1 + -(4845 / 1000 / M)) * M = I - 43520 / 1000 - 4845 / 1000 * (I - 43520 / 1000) / M := by grind
    rw [e2]
    generalize 4845 / 1000 * (I - 43520 / 1000) / M = z at *
    grind
  · rw [hd]
    have : ((10 ^ (p + 2).toNat : Int) : Rat) ≤ ((I + 44 : Int) : Rat) := by
      rw [ten_cast, rat_add_cast]
      have : ((44 : Int) : Rat) = 44 := rfl
      rw [this]
      grind
    have := int_le_of_rat this
    omega
  · rw [hd]
    have : (I : Rat) ≤ ((10 * 10 ^ (p + 2).toNat + 50 : Int) : Rat) := by
      rw [rat_add_cast, rat_mul_cast, ten_cast]
      exact I2
    have := int_le_of_rat this
    omega
end Mine

namespace Mine
open PySem.Builtin.Int (intBits)

theorem divN_mono {a a' b : Int} (hb : 0 < b) (h : a ≤ a') : divN a b ≤ divN a' b := by
  obtain ⟨a1, a2⟩ := divN_spec (a := a) hb
  obtain ⟨b1, b2⟩ := divN_spec (a := a') hb
  rcases Int.lt_or_le (divN a' b) (divN a b) with hc | hc
  · exfalso
    have k := Int.mul_le_mul_of_nonneg_left (show divN a' b + 1 ≤ divN a b by omega) (Int.le_of_lt hb)
    rw [Int.mul_add] at k
    have e : a = a' := by omega
    rw [e] at hc
    omega
  · exact hc
theorem divN_nn9 {a b : Int} (hb : 0 < b) (h : 0 ≤ a) : 0 ≤ divN a b := by
  have := divN_mono hb h
  have e : divN 0 b = 0 := by unfold divN; simp; omega
  omega
theorem eS_mono {x x' Ms T : Int} (hx : 0 ≤ x) (hxx : x ≤ x') (hM : 0 < Ms) (hT : 0 < T) : ∀ j : Nat, (j : Int) < T → 0 ≤ eS x Ms T j ∧ eS x Ms T j ≤ eS x' Ms T j
  | 0, _ => ⟨divN_nn9 hT hx, divN_mono hT hxx⟩
  | j + 1, hj => by
    obtain ⟨i1, i2⟩ := eS_mono hx hxx hM hT j (by omega)
    have hd : 0 < Ms * (T - 1 - (j : Int)) := Int.mul_pos hM (by omega)
    refine ⟨divN_nn9 hd (Int.mul_nonneg hx (by omega)), divN_mono hd ?_⟩
    exact Int.mul_le_mul hxx (by omega) (by omega) (by omega)
theorem dS_mono {M y y' : Int} {R : Nat} (hM : 0 < M) (hy : 0 ≤ y) (hyy : y ≤ y') : ∀ j : Nat, 0 ≤ dS M R y j ∧ dS M R y j ≤ dS M R y' j
  | 0 => ⟨hy, hyy⟩
  | j + 1 => by
    obtain ⟨i1, i2⟩ := dS_mono (R := R) hM hy hyy j
    have hd : 0 < M * 2 ^ (R - 1 - j + 2) := Int.mul_pos hM (two_pow_pos _)
    refine ⟨divN_nn9 hd (Int.mul_nonneg i1 (by omega)), divN_mono hd ?_⟩
    exact Int.mul_le_mul i2 (by omega) (by omega) (by omega)
theorem iexpF_mono {M x x' : Int} (hM : 0 < M) (hx : 0 ≤ x) (hxx : x ≤ x') (hr : rOf M x 8 = rOf M x' 8) : iexpF M x 8 ≤ iexpF M x' 8 := by
  have hT := tOf_pos (M := M) (L := 8) (by omega) (by omega)
  have hMs : 0 < M * 2 ^ rOf M x 8 := Int.mul_pos hM (two_pow_pos _)
  obtain ⟨a, b⟩ := eS_mono hx hxx hMs hT (tOf M 8 - 1).toNat (by omega)
  have k := dS_mono (M := M) (R := rOf M x 8) (y := iexpY M x 8) (y' := iexpY M x' 8) hM (by unfold iexpY; exact a) (by unfold iexpY; rw [← hr]; exact b) (rOf M x 8)
  have hr' := hr
  unfold iexpF
  rw [← hr]
  omega

/-- the steps that a number is past -/
def stp (Q y : Int) : Nat := ((List.range 10).filter (fun j => decide (Q * 2 ^ j ≤ 256 * y))).length
theorem filter_le {P : Nat → Bool} {k : Nat} (h : ∀ j, P j = true → j < k) (n : Nat) : ((List.range n).filter P).length ≤ k := by
    have key : ∀ n, ((List.range n).filter P).length ≤ min n k := by
      intro n
      induction n with
      | zero => simp
      | succ n ih =>
        rw [List.range_succ, List.filter_append, List.length_append]
        by_cases hp : P n = true
        · have := h n hp
          have e : (List.filter P [n]).length = 1 := by simp [hp]
          omega
        · have e : (List.filter P [n]).length = 0 := by simp [hp]
          omega
    have := key n
    omega
theorem filter_ge {P : Nat → Bool} {k : Nat} (h : ∀ j, j < k → P j = true) : ∀ n, min n k ≤ ((List.range n).filter P).length
  | 0 => by simp
  | n + 1 => by
    have ih := filter_ge h n
    rw [List.range_succ, List.filter_append, List.length_append]
    by_cases hp : P n = true
    · have e : (List.filter P [n]).length = 1 := by simp [hp]
      omega
    · have e : (List.filter P [n]).length = 0 := by simp [hp]
      have : ¬ n < k := fun hn => hp (h n hn)
      omega

theorem rOf_lt {M R : Int} (hM : 0 < M) (hR : 0 ≤ R) : 256 * R < 2 ^ rOf M R 8 * M := by
  have h := intBits_le_iff.mp (Nat.le_refl (rOf M R 8))
  unfold rOf at h
  have e8 : (2 : Int) ^ Int.toNat 8 = 256 := by decide
  rw [e8] at h
  have hq : 0 ≤ R * 256 / M := Int.ediv_nonneg (by omega) (by omega)
  have h2 : R * 256 / M < 2 ^ intBits (R * 256 / M) := by
    have : ((R * 256 / M).natAbs : Int) < ((2 ^ intBits (R * 256 / M) : Nat) : Int) := by exact_mod_cast h
    push_cast at this
    omega
  have h3 := Int.mul_le_mul_of_nonneg_right (show R * 256 / M + 1 ≤ 2 ^ intBits (R * 256 / M) by omega) (Int.le_of_lt hM)
  have hm := Int.mul_ediv_add_emod (R * 256) M
  have m1 := Int.emod_lt_of_pos (R * 256) hM
  have e : rOf M R 8 = intBits (R * 256 / M) := by unfold rOf; rw [e8]
  rw [e]
  rw [Int.add_mul, Int.mul_comm (R * 256 / M) M] at h3
  omega
theorem rOf_ge {M R : Int} (hM : 0 < M) (hR : 0 ≤ R) {j : Nat} (hj : j < rOf M R 8) : 2 ^ j * M ≤ 256 * R := by
  have h : ¬ intBits (R * 2 ^ Int.toNat 8 / M) ≤ j := by unfold rOf at hj; omega
  rw [intBits_le_iff] at h
  have e8 : (2 : Int) ^ Int.toNat 8 = 256 := by decide
  rw [e8] at h
  have hq : 0 ≤ R * 256 / M := Int.ediv_nonneg (by omega) (by omega)
  have h2 : (2 : Int) ^ j ≤ R * 256 / M := by
    have : ((2 ^ j : Nat) : Int) ≤ ((R * 256 / M).natAbs : Int) := by exact_mod_cast (Nat.le_of_not_lt h)
    push_cast at this
    omega
  have h3 := Int.mul_le_mul_of_nonneg_right h2 (Int.le_of_lt hM)
  have hm := Int.mul_ediv_add_emod (R * 256) M
  have m0 := Int.emod_nonneg (R * 256) (show M ≠ 0 by omega)
  rw [Int.mul_comm (R * 256 / M) M] at h3
  omega

/-- where both stand clear between the same steps, the doublings are the same -/
theorem steps_same {M X ra rb : Int} (hM : 0 < M) (hX : 0 < X) (h0 : 0 ≤ ra) (h1 : ra ≤ rb) (hs : stp (M * X) (ra - X) = stp (M * X) (rb + X)) (hb : rOf M (divN rb X) 8 ≤ 10) :
    rOf M (divN ra X) 8 = rOf M (divN rb X) 8 := by
  obtain ⟨a1, a2⟩ := divN_spec (a := ra) hX
  obtain ⟨b1, b2⟩ := divN_spec (a := rb) hX
  have na := divN_nn9 hX h0
  have nb := divN_nn9 (a := rb) hX (by omega)
  have hab := divN_mono hX h1
  obtain ⟨A, hA⟩ : ∃ A, divN ra X = A := ⟨_, rfl⟩
  obtain ⟨B, hB⟩ : ∃ B, divN rb X = B := ⟨_, rfl⟩
  rw [hA] at a1 a2 na hab ⊢
  rw [hB] at b1 b2 nb hab hb ⊢
  have k1 : stp (M * X) (ra - X) ≤ rOf M A 8 := by
    refine filter_le (fun j hj => ?_) 10
    have hj' : M * X * 2 ^ j ≤ 256 * (ra - X) := by simpa using hj
    rcases Nat.lt_or_ge j (rOf M A 8) with h | h
    · exact h
    · exfalso
      have t := rOf_lt hM na
      have p : (2 : Int) ^ rOf M A 8 ≤ 2 ^ j := by
        have : (2 : Nat) ^ rOf M A 8 ≤ 2 ^ j := Nat.pow_le_pow_right (by decide) h
        exact_mod_cast this
      have q1 := Int.mul_le_mul_of_nonneg_right p (show 0 ≤ M * X from Int.le_of_lt (Int.mul_pos hM hX))
      have q2 := Int.mul_le_mul_of_nonneg_right (show 256 * A + 1 ≤ 2 ^ rOf M A 8 * M by omega) (Int.le_of_lt hX)
      have e1 : (2 : Int) ^ j * (M * X) = M * X * 2 ^ j := by rw [Int.mul_comm]
      have e2 : (2 : Int) ^ rOf M A 8 * (M * X) = 2 ^ rOf M A 8 * M * X := by rw [Int.mul_assoc]
      rw [Int.add_mul, Int.mul_assoc 256 A X, Int.mul_comm A X] at q2
      omega
  have k2 : rOf M B 8 ≤ stp (M * X) (rb + X) := by
    have := filter_ge (P := fun j => decide (M * X * 2 ^ j ≤ 256 * (rb + X))) (k := rOf M B 8) (fun j hj => by
      have t := rOf_ge hM nb hj
      have q := Int.mul_le_mul_of_nonneg_right t (Int.le_of_lt hX)
      have e : (2 : Int) ^ j * M * X = M * X * 2 ^ j := by rw [Int.mul_assoc, Int.mul_comm]
      rw [Int.mul_assoc 256 B X, Int.mul_comm B X] at q
      simp only [decide_eq_true_eq]
      omega) 10
    unfold stp
    omega
  have k3 : rOf M A 8 ≤ rOf M B 8 := by
    rcases Nat.lt_or_ge (rOf M B 8) (rOf M A 8) with h | h
    · exfalso
      have t := rOf_ge hM na h
      have u := rOf_lt hM nb
      omega
    · exact h
  omega
end Mine

namespace Mine
open PySem.Builtin.Int (intBits)
open Ex

/-- what a told pair says of exp at c / 10 ** q -/
structure Pt (q c d f : Int) : Prop where
  l : EL ((c : Rat) / (10 : Rat) ^ q.toNat) ((1000 * (d : Rat) + 615) / 1000 * tz f)
  g : EG ((c : Rat) / (10 : Rat) ^ q.toNat) ((1000 * (d : Rat) - 615) / 1000 * tz f)
  d1 : 1 ≤ d

theorem cancel_le {a b t : Rat} (ht : 0 < t) (h : a * t ≤ b * t) : a ≤ b := by
  rcases Classical.em (a ≤ b) with q | q
  · exact q
  · exfalso
    have := Rat.mul_lt_mul_of_pos_right (show b < a by grind) ht
    grind

theorem slope_core {N va vb δ la ua lb ub τ S : Rat} (hN : 0 < N) (hτ : 0 < τ) (hS : 0 < S) (hδ : 0 ≤ δ) (hv : vb = va + δ) (hla : 0 < la) (hlb : 0 < lb) (hua : 0 < ua)
    (gA : EG va (la * τ)) (lA : EL va (ua * τ)) (gB : EG vb (lb * (τ * S))) (lB : EL vb (ub * (τ * S))) : la * (1 + δ) ≤ ub * S ∧ lb * S * (1 - δ) ≤ ua := by
  constructor
  · have h := EG.add gA (EG.one_add δ) (by grind)
    rw [← hv] at h
    have k := h.le lB
    refine cancel_le hτ ?_
    grind
  · rcases Classical.em (δ < 1) with h1 | h1
    · have h := EG.add gB (EG.one_add (-δ)) (by grind)
      have e : vb + -δ = va := by rw [hv]; grind
      rw [e] at h
      have k := h.le lA
      refine cancel_le hτ ?_
      grind
    · have := Rat.mul_nonneg (show 0 ≤ lb * S from Rat.le_of_lt (Rat.mul_pos hlb hS)) (show 0 ≤ δ - 1 by grind)
      grind

theorem slope_fin {N w S da db : Rat} (hN : 0 < N) (hw : 0 ≤ w) (hS : 0 < S) (hda : 1 ≤ da) (hdb : 1 ≤ db)
    (h1 : (1000 * da - 615) / 1000 * (1 + w / N) ≤ (1000 * db + 615) / 1000 * S) (h2 : (1000 * db - 615) / 1000 * S * (1 - w / N) ≤ (1000 * da + 615) / 1000) :
    (100 * da - 62) * w < (100 * (S * db - da) + 62 * (S + 1)) * N ∧ (100 * (S * db - da) - 62 * (S + 1)) * N < S * (100 * db + 62) * w := by
  have hwN : w / N * N = w := Rat.div_mul_cancel (by grind)
  have hSN := Rat.mul_pos hS hN
  constructor
  · have k := Rat.mul_le_mul_of_nonneg_right h1 (Rat.le_of_lt hN)
    have e : (1000 * da - 615) / 1000 * (1 + w / N) * N = (1000 * da - 615) / 1000 * (N + w) := by
      have : (1000 * da - 615) / 1000 * (1 + w / N) * N = (1000 * da - 615) / 1000 * (N + w / N * N) := by grind
      rw [this, hwN]
    rw [e] at k
    have e2 : (1000 * db + 615) / 1000 * S * N = db * (S * N) + 615 / 1000 * (S * N) := by grind
    rw [e2] at k
    have e3 : (100 * (S * db - da) + 62 * (S + 1)) * N = 100 * (db * (S * N)) - 100 * (da * N) + 62 * (S * N) + 62 * N := by grind
    rw [e3]
    have e4 : (1000 * da - 615) / 1000 * (N + w) = da * N + da * w - 615 / 1000 * N - 615 / 1000 * w := by grind
    rw [e4] at k
    have e5 : (100 * da - 62) * w = 100 * (da * w) - 62 * w := by grind
    rw [e5]
    generalize db * (S * N) = a1 at *
    generalize da * N = a2 at *
    generalize da * w = a3 at *
    generalize S * N = a4 at *
    clear e e2 e3 e4 e5 h1 h2 hwN
    grind
  · have k := Rat.mul_le_mul_of_nonneg_right h2 (Rat.le_of_lt hN)
    have e : (1000 * db - 615) / 1000 * S * (1 - w / N) * N = (1000 * db - 615) / 1000 * S * (N - w) := by
      have : (1000 * db - 615) / 1000 * S * (1 - w / N) * N = (1000 * db - 615) / 1000 * S * (N - w / N * N) := by grind
      rw [this, hwN]
    rw [e] at k
    have e2 : (1000 * db - 615) / 1000 * S * (N - w) = db * (S * N) - 615 / 1000 * (S * N) - db * (S * w) + 615 / 1000 * (S * w) := by grind
    rw [e2] at k
    have e3 : (100 * (S * db - da) - 62 * (S + 1)) * N = 100 * (db * (S * N)) - 100 * (da * N) - 62 * (S * N) - 62 * N := by grind
    rw [e3]
    have e4 : (1000 * da + 615) / 1000 * N = da * N + 615 / 1000 * N := by grind
    rw [e4] at k
    have e5 : S * (100 * db + 62) * w = 100 * (db * (S * w)) + 62 * (S * w) := by grind
    rw [e5]
    have hSw := Rat.mul_nonneg (Rat.le_of_lt hS) hw
    generalize db * (S * N) = a1 at *
    generalize da * N = a2 at *
    generalize db * (S * w) = a3 at *
    generalize S * N = a4 at *
    generalize S * w = a5 at *
    clear e e2 e3 e4 e5 h1 h2 hwN
    grind

theorem slope {q a b da db fa fb J : Int} (hab : a ≤ b) (A : Pt q a da fa) (B : Pt q b db fb) (hJ : fb - fa = J) (hJ0 : 0 ≤ J) :
    ¬ (100 * (10 ^ J.toNat * db - da) + 62 * (10 ^ J.toNat + 1)) * 10 ^ q.toNat ≤ (100 * da - 62) * (b - a) ∧ ¬ (100 * (10 ^ J.toNat * db - da) - 62 * (10 ^ J.toNat + 1)) * 10 ^ q.toNat ≥ 10 ^ J.toNat * (100 * db + 62) * (b - a) := by
  have hN := tenQ_pos q.toNat
  have hS := tenQ_pos J.toNat
  have cda := castle A.d1
  have cdb := castle B.d1
  have e1 : ((1 : Int) : Rat) = 1 := rfl
  rw [e1] at cda cdb
  have cw : (0 : Rat) ≤ ((b - a : Int) : Rat) := castle (show 0 ≤ b - a by omega)
  have eb : (b : Rat) = (a : Rat) + ((b - a : Int) : Rat) := by rw [← rat_add_cast]; congr 1; omega
  have ef : tz fb = tz fa * (10 : Rat) ^ J.toNat := by
    have : fb = fa + J := by omega
    rw [this, tz_add, tz_nat hJ0]
  have gB := B.g
  have lB := B.l
  rw [ef] at gB lB
  have δ0 : 0 ≤ ((b - a : Int) : Rat) / (10 : Rat) ^ q.toNat := div_nn cw hN
  obtain ⟨k1, k2⟩ := slope_core (N := (10 : Rat) ^ q.toNat) (va := (a : Rat) / (10 : Rat) ^ q.toNat) (vb := (b : Rat) / (10 : Rat) ^ q.toNat) hN (tz_pos fa) hS δ0 (by
    rw [eb]
    generalize (10 : Rat) ^ q.toNat = N at *
    grind) (by grind) (by grind) (by grind) A.g A.l gB lB
  obtain ⟨m1, m2⟩ := slope_fin hN cw hS cda cdb k1 k2
  constructor
  · intro h
    have h' := castle h
    have c1 : (((100 * (10 ^ J.toNat * db - da) + 62 * (10 ^ J.toNat + 1)) * 10 ^ q.toNat : Int) : Rat) = (100 * ((10 : Rat) ^ J.toNat * (db : Rat) - (da : Rat)) + 62 * ((10 : Rat) ^ J.toNat + 1)) * (10 : Rat) ^ q.toNat := by push_cast; rfl
    have c2 : (((100 * da - 62) * (b - a) : Int) : Rat) = (100 * (da : Rat) - 62) * ((b - a : Int) : Rat) := by push_cast; rfl
    rw [c1, c2] at h'
    grind
  · intro h
    have h' := castle h
    have c1 : (((100 * (10 ^ J.toNat * db - da) - 62 * (10 ^ J.toNat + 1)) * 10 ^ q.toNat : Int) : Rat) = (100 * ((10 : Rat) ^ J.toNat * (db : Rat) - (da : Rat)) - 62 * ((10 : Rat) ^ J.toNat + 1)) * (10 : Rat) ^ q.toNat := by push_cast; rfl
    have c2 : ((10 ^ J.toNat * (100 * db + 62) * (b - a) : Int) : Rat) = (10 : Rat) ^ J.toNat * (100 * (db : Rat) + 62) * ((b - a : Int) : Rat) := by push_cast; rfl
    rw [c1, c2] at h'
    grind
end Mine

namespace Mine
open PySem.Builtin.Int (intBits)
open Ex

/-- the row: what holds of its numbers between two turns of the loop that makes it -/
structure Row9 (q x t Q0 : Int) (pts : List Int) : Prop where
  one : (Q0 + 1) * t - 1 ∈ pts
  two : (Q0 + 1) * t ∈ pts
  lo : ∀ z ∈ pts, Q0 * t ≤ z
  hi : ∀ z ∈ pts, z < (Q0 + 3) * t ∨ ((∃ c ∈ pts, (Q0 + 2) * t ≤ c ∧ c < (Q0 + 3) * t) ∧ z < (Q0 + 4) * t)
  dx : ∀ z ∈ pts, dxX z (-q) = x

/-- the stretch: from least on, three times t within the side's numbers -/
structure Base9 (q x t least : Int) : Prop where
  t0 : 0 < t
  q1 : 1 ≤ q
  tq : 10 ^ (q - 1).toNat < t
  dx : ∀ z, least ≤ z → z < least + 3 * t → dxX z (-q) = x

theorem Row9.start {q x t least : Int} (B : Base9 q x t least) : Row9 q x t (least / t) [(least / t + 1) * t - 1, (least / t + 1) * t] := by
  have hm := Int.mul_ediv_add_emod least t
  have t0 := B.t0
  have m0 := Int.emod_nonneg least (show t ≠ 0 by omega)
  have m1 := Int.emod_lt_of_pos least t0
  obtain ⟨Q, hQ⟩ : ∃ Q, least / t = Q := ⟨_, rfl⟩
  rw [hQ] at hm ⊢
  have e0 : t * Q = Q * t := Int.mul_comm _ _
  rw [e0] at hm
  have e1 : (Q + 1) * t = Q * t + t := by rw [Int.add_mul]; omega
  have e3 : (Q + 3) * t = Q * t + 3 * t := by rw [Int.add_mul]
  refine ⟨by simp, by simp, ?_, ?_, ?_⟩
  · intro z hz
    simp only [List.mem_cons, List.not_mem_nil, or_false] at hz
    rcases hz with rfl | rfl <;> omega
  · intro z hz
    simp only [List.mem_cons, List.not_mem_nil, or_false] at hz
    left
    rcases hz with rfl | rfl <;> omega
  · intro z hz
    simp only [List.mem_cons, List.not_mem_nil, or_false] at hz
    refine B.dx z ?_ ?_ <;> (rcases hz with rfl | rfl <;> omega)

theorem Row9.grow {q x t least c w : Int} {pts : List Int} (B : Base9 q x t least) (R : Row9 q x t (least / t) pts) (h1 : least ≤ c) (h2 : c < least + 2 * t) (w1 : 1 ≤ w) (w2 : w ≤ 10 ^ (q - 1).toNat) : Row9 q x t (least / t) (pts ++ [c, c + w]) := by
  have hm := Int.mul_ediv_add_emod least t
  have t0 := B.t0
  have tq := B.tq
  have m0 := Int.emod_nonneg least (show t ≠ 0 by omega)
  have m1 := Int.emod_lt_of_pos least t0
  obtain ⟨Q, hQ⟩ : ∃ Q, least / t = Q := ⟨_, rfl⟩
  rw [hQ] at hm R ⊢
  have e0 : t * Q = Q * t := Int.mul_comm _ _
  rw [e0] at hm
  have e2 : (Q + 2) * t = Q * t + 2 * t := by rw [Int.add_mul]
  have e3 : (Q + 3) * t = Q * t + 3 * t := by rw [Int.add_mul]
  have e4 : (Q + 4) * t = Q * t + 4 * t := by rw [Int.add_mul]
  have ext : ∀ z, z ∈ pts ++ [c, c + w] ↔ z ∈ pts ∨ z = c ∨ z = c + w := by intro z; simp
  refine ⟨(ext _).mpr (.inl R.one), (ext _).mpr (.inl R.two), ?_, ?_, ?_⟩
  · intro z hz
    rcases (ext z).mp hz with h | h | h
    · exact R.lo z h
    · omega
    · omega
  · intro z hz
    rcases (ext z).mp hz with h | h | h
    · rcases R.hi z h with k | ⟨⟨c', hc', k1, k2⟩, k⟩
      · exact .inl k
      · exact .inr ⟨⟨c', (ext c').mpr (.inl hc'), k1, k2⟩, k⟩
    · left; omega
    · rcases Int.lt_or_le z ((Q + 3) * t) with k | k
      · exact .inl k
      · exact .inr ⟨⟨c, (ext c).mpr (.inr (.inl rfl)), by omega, by omega⟩, by omega⟩
  · intro z hz
    rcases (ext z).mp hz with h | h | h
    · exact R.dx z h
    · exact B.dx z (by omega) (by omega)
    · exact B.dx z (by omega) (by omega)

/-- from one number of the row to the next the whole part stays or goes up by one -/
theorem Row9.jump {q x t Q0 a b : Int} {pts : List Int} (t0 : 0 < t) (R : Row9 q x t Q0 pts) (ha : a ∈ pts) (hb : b ∈ pts) (hab : a ≤ b) (gap : ∀ z ∈ pts, z ≤ a ∨ b ≤ z) : 0 ≤ b / t - a / t ∧ b / t - a / t ≤ 1 := by
  have hA := Int.mul_ediv_add_emod a t
  have a0 := Int.emod_nonneg a (show t ≠ 0 by omega)
  have a1 := Int.emod_lt_of_pos a t0
  have hB := Int.mul_ediv_add_emod b t
  have b0 := Int.emod_nonneg b (show t ≠ 0 by omega)
  have b1 := Int.emod_lt_of_pos b t0
  have hmono : a / t ≤ b / t := Int.ediv_le_ediv t0 hab
  refine ⟨by omega, ?_⟩
  rcases Int.lt_or_le 1 (b / t - a / t) with h | h
  · exfalso
    have le_of : ∀ n : Int, n * t ≤ a → n ≤ a / t := fun n hn => (Int.le_ediv_iff_mul_le t0).mpr hn
    have le_ofb : ∀ n : Int, n * t ≤ b → n ≤ b / t := fun n hn => (Int.le_ediv_iff_mul_le t0).mpr hn
    have lt_of : ∀ n : Int, a < n * t → a / t < n := fun n hn => (Int.ediv_lt_iff_lt_mul t0).mpr hn
    have lt_ofb : ∀ n : Int, b < n * t → b / t < n := fun n hn => (Int.ediv_lt_iff_lt_mul t0).mpr hn
    have mul_le : ∀ n : Int, n ≤ b / t → n * t ≤ b := fun n hn => (Int.le_ediv_iff_mul_le t0).mp hn
    have g0 := le_of Q0 (R.lo a ha)
    rcases gap _ R.two with k | k
    · have := le_of (Q0 + 1) k
      rcases R.hi b hb with u | ⟨⟨c, hc, c1, c2⟩, u⟩
      · have := lt_ofb (Q0 + 3) u
        omega
      · have u1 := lt_ofb (Q0 + 4) u
        rcases gap c hc with v | v
        · have := le_of (Q0 + 2) (Int.le_trans c1 v)
          omega
        · have := lt_ofb (Q0 + 3) (Int.lt_of_le_of_lt v c2)
          omega
    · have e1 : (Q0 + 1) * t < (Q0 + 2) * t := Int.mul_lt_mul_of_pos_right (by omega) t0
      have := lt_ofb (Q0 + 2) (Int.lt_of_le_of_lt k e1)
      omega
  · exact h

/-- the parts of _dexp where the number is read with the point q places ahead of its end -/
theorem dxQ9 {p x c : Int} (hX : dxX c (-(p + 2 + x)) = x) : dxQ c (-(p + 2 + x)) p = c / l10 (p + 2 + x) ∧ dxR c (-(p + 2 + x)) p = divN (c % l10 (p + 2 + x)) (10 ^ x.toNat) := by
  have hC : dxC c (-(p + 2 + x)) p = c := by
    unfold dxC
    rw [hX]
    have e : -(p + 2 + x) + (p + 2 + x) = 0 := by omega
    rw [e, if_pos (by omega)]
    have : Int.toNat 0 = 0 := rfl
    rw [this, Int.pow_zero, Int.mul_one]
  unfold dxQ dxR
  rw [hX, hC]
  exact ⟨rfl, rfl⟩

/-- two numbers of the row that follow upon each other -/
structure Step9 (p x a b : Int) (da fa db fb : Int) : Prop where
  j0 : 0 ≤ fb - fa
  j1 : fb - fa ≤ 1
  s1 : ¬ (100 * (10 ^ (fb - fa).toNat * db - da) + 62 * (10 ^ (fb - fa).toNat + 1)) * 10 ^ (p + 2 + x).toNat ≤ (100 * da - 62) * (b - a)
  s2 : ¬ (100 * (10 ^ (fb - fa).toNat * db - da) - 62 * (10 ^ (fb - fa).toNat + 1)) * 10 ^ (p + 2 + x).toNat ≥ 10 ^ (fb - fa).toNat * (100 * db + 62) * (b - a)
  ord : fb - fa = 0 → stp (10 ^ (p + 2 + x).toNat) (a % l10 (p + 2 + x) - 10 ^ x.toNat) = stp (10 ^ (p + 2 + x).toNat) (b % l10 (p + 2 + x) + 10 ^ x.toNat) → ¬ da > db

theorem pt9 {p x c : Int} (hp : 1 ≤ p) (hp2 : p ≤ 30) (hx : 0 ≤ x) (hx2 : x ≤ 4) (hX : dxX c (-(p + 2 + x)) = x) : Pt (p + 2 + x) c (dexpD c (-(p + 2 + x)) p) (dexpE c (-(p + 2 + x)) p) ∧ 10 ^ (p - 1).toNat ≤ dexpD c (-(p + 2 + x)) p ∧ dexpD c (-(p + 2 + x)) p ≤ 10 ^ p.toNat ∧ PreE (10 ^ (p + 2).toNat) (dxR c (-(p + 2 + x)) p) 8 := by
  have D := dexp_spec (c := c) (k := p + 2 + x) (p := p) (by omega) hp hX hx (by omega)
  have := ten_pos (p - 1).toNat
  have d1 := D.d1
  exact ⟨⟨D.l, D.g, by omega⟩, D.d1, D.d2, D.pre⟩

theorem step9 {p x Q0 a b : Int} {pts : List Int} (hp : 1 ≤ p) (hp2 : p ≤ 30) (hx : 0 ≤ x) (hx2 : x ≤ 4) (R : Row9 (p + 2 + x) x (l10 (p + 2 + x)) Q0 pts) (ha : a ∈ pts) (hb : b ∈ pts) (hab : a ≤ b) (gap : ∀ z ∈ pts, z ≤ a ∨ b ≤ z) :
    Step9 p x a b (dexpD a (-(p + 2 + x)) p) (dexpE a (-(p + 2 + x)) p) (dexpD b (-(p + 2 + x)) p) (dexpE b (-(p + 2 + x)) p) := by
  obtain ⟨t0, -⟩ := l10_pos (q := p + 2 + x) (by omega) (by omega)
  obtain ⟨n1, n2⟩ := l10_near (q := p + 2 + x) (by omega) (by omega)
  obtain ⟨j0, j1⟩ := R.jump t0 ha hb hab gap
  obtain ⟨qa, ra⟩ := dxQ9 (R.dx a ha)
  obtain ⟨qb, rb⟩ := dxQ9 (R.dx b hb)
  obtain ⟨A, -, -, -⟩ := pt9 hp hp2 hx hx2 (R.dx a ha)
  obtain ⟨B, -, -, -⟩ := pt9 hp hp2 hx hx2 (R.dx b hb)
  have hf : dexpE b (-(p + 2 + x)) p - dexpE a (-(p + 2 + x)) p = b / l10 (p + 2 + x) - a / l10 (p + 2 + x) := by
    unfold dexpE
    rw [qa, qb]
    omega
  obtain ⟨s1, s2⟩ := slope hab A B rfl (by omega)
  refine ⟨by omega, by omega, s1, s2, fun h0 hs => ?_⟩
  have hq : a / l10 (p + 2 + x) = b / l10 (p + 2 + x) := by omega
  have hA := Int.mul_ediv_add_emod a (l10 (p + 2 + x))
  have hB := Int.mul_ediv_add_emod b (l10 (p + 2 + x))
  rw [hq] at hA
  have a0 := Int.emod_nonneg a (show l10 (p + 2 + x) ≠ 0 by omega)
  have b0 := Int.emod_nonneg b (show l10 (p + 2 + x) ≠ 0 by omega)
  have b1 := Int.emod_lt_of_pos b t0
  have hM := ten_pos (p + 2).toNat
  have hXp := ten_pos x.toNat
  have eQ : (10 : Int) ^ (p + 2 + x).toNat = 10 ^ (p + 2).toNat * 10 ^ x.toNat := by
    rw [← Int.pow_add]; congr 1; omega
  rw [eQ] at hs n1 n2
  have hRb : 1000 * divN (b % l10 (p + 2 + x)) (10 ^ x.toNat) ≤ 2304 * 10 ^ (p + 2).toNat := by
    obtain ⟨r1, r2⟩ := divN_spec (a := b % l10 (p + 2 + x)) hXp
    rcases Int.lt_or_le (2304 * 10 ^ (p + 2).toNat) (1000 * divN (b % l10 (p + 2 + x)) (10 ^ x.toNat)) with h | h
    · exfalso
      have k := Int.mul_le_mul_of_nonneg_left (Int.le_of_lt h) (Int.le_of_lt hXp)
      have e1 : (10 : Int) ^ x.toNat * (2304 * 10 ^ (p + 2).toNat) = 2304 * (10 ^ (p + 2).toNat * 10 ^ x.toNat) := by grind
      have e2 : (10 : Int) ^ x.toNat * (1000 * divN (b % l10 (p + 2 + x)) (10 ^ x.toNat)) = 1000 * (10 ^ x.toNat * divN (b % l10 (p + 2 + x)) (10 ^ x.toNat)) := by grind
      rw [e1, e2] at k
      have hM3 : 1000 ≤ (10 : Int) ^ (p + 2).toNat := by
        have : (10 : Nat) ^ 3 ≤ 10 ^ (p + 2).toNat := Nat.pow_le_pow_right (by decide) (by omega)
        exact_mod_cast this
      have k2 := Int.mul_le_mul_of_nonneg_right hM3 (Int.le_of_lt hXp)
      omega
    · exact h
  have nb := divN_nn (a := b % l10 (p + 2 + x)) hXp b0
  have hR10 : rOf (10 ^ (p + 2).toNat) (divN (b % l10 (p + 2 + x)) (10 ^ x.toNat)) 8 ≤ 10 := rOf_le_pos hM nb (by
    have e8 : (2 : Int) ^ Int.toNat 8 = 256 := by decide
    have e10 : (2 : Int) ^ 10 = 1024 := by decide
    rw [e8, e10]; omega)
  have hr := steps_same hM hXp a0 (show a % l10 (p + 2 + x) ≤ b % l10 (p + 2 + x) by omega) hs hR10
  have hRR := divN_mono hXp (show a % l10 (p + 2 + x) ≤ b % l10 (p + 2 + x) by omega)
  have hI := iexpF_mono hM (divN_nn hXp a0) hRR hr
  have hD := divN_mono (b := 1000) (by decide) hI
  have da : dexpD a (-(p + 2 + x)) p = divN (iexpF (10 ^ (p + 2).toNat) (divN (a % l10 (p + 2 + x)) (10 ^ x.toNat)) 8) 1000 := by unfold dexpD; rw [ra]
  have db : dexpD b (-(p + 2 + x)) p = divN (iexpF (10 ^ (p + 2).toNat) (divN (b % l10 (p + 2 + x)) (10 ^ x.toNat)) 8) 1000 := by unfold dexpD; rw [rb]
  rw [da, db]
  omega
end Mine

namespace Mine
open PySem.Builtin.Int (intBits)
open Ex

theorem dx_of {z q n : Int} (hn : digs z = n) (h : q ≤ n - 1) : dxX z (-q) = n - 1 - q := by
  unfold dxX
  rw [hn]
  split <;> omega
theorem digs_eq {z : Int} {n : Nat} (hn : 1 ≤ n) (h1 : 10 ^ (n - 1) ≤ z) (h2 : z < 10 ^ n) : digs z = (n : Int) := by
  have hp := ten_pos (n - 1)
  have u := (digs_iff (M := z) (by omega) (k := n) (by omega)).mpr h2
  rcases Nat.lt_or_ge 1 n with h | h
  · rcases Int.lt_or_le (digs z) n with k | k
    · exfalso
      have := (digs_iff (M := z) (by omega) (k := n - 1) (by omega)).mp (by omega)
      omega
    · omega
  · have := digs_pos (M := z) (by omega)
    omega
theorem dx9_zero {q z : Int} (hq : 1 ≤ q) (h0 : 0 ≤ z) (h1 : z < 10 ^ (q + 1).toNat) : dxX z (-q) = 0 := by
  have u := (digs_iff (M := z) h0 (k := (q + 1).toNat) (by omega)).mpr h1
  unfold dxX
  split <;> omega
theorem dx9_pos {q x z : Int} (hq : 1 ≤ q) (hx : 1 ≤ x) (h0 : 10 ^ (q + x).toNat ≤ z) (h1 : z < 10 * 10 ^ (q + x).toNat) : dxX z (-q) = x := by
  have e : (10 : Int) ^ ((q + x).toNat + 1) = 10 * 10 ^ (q + x).toNat := by rw [Int.pow_succ]; omega
  have d := digs_eq (z := z) (n := (q + x).toNat + 1) (by omega) (by simpa using h0) (by rw [e]; exact h1)
  rw [dx_of d (by omega)]
  omega
theorem dx9_neg {q x z : Int} (hq : 1 ≤ q) (hx : 1 ≤ x) (h0 : -z < 10 * 10 ^ (q + x - 1).toNat) (h1 : 10 ^ (q + x - 1).toNat ≤ -z) : dxX z (-q) = x := by
  have hp := ten_pos (q + x - 1).toNat
  obtain ⟨n, hn⟩ := Int.eq_ofNat_of_zero_le (show 0 ≤ -z by omega)
  have ez : z = -(n : Int) := by omega
  have hn0 : 0 < n := by omega
  have e : (10 : Int) ^ ((q + x - 1).toNat + 1) = 10 * 10 ^ (q + x - 1).toNat := by rw [Int.pow_succ]; omega
  have d := digs_eq (z := (n : Int)) (n := (q + x - 1).toNat + 1) (by omega) (by simpa [← hn] using h1) (by rw [e]; omega)
  have d2 : digs z = (n : Int) * 0 + (((q + x - 1).toNat + 1 : Nat) : Int) + 1 := by rw [ez, digs_neg hn0, d]; omega
  rw [dx_of d2 (by omega)]
  omega

theorem base9 {q x t lo width m least : Int} (ht : 0 < t) (hq : 1 ≤ q) (tq : 10 ^ (q - 1).toNat < t) (hw : 3 * t ≤ width) (m0 : 0 ≤ m) (m1 : m < 1000000) (hl : lo + m * (width - 3 * t) / 1000000 = least)
    (r : ∀ z, lo ≤ z → z < lo + width → dxX z (-q) = x) : Base9 q x t least := by
  have k0 : 0 ≤ m * (width - 3 * t) := Int.mul_nonneg m0 (by omega)
  have k1 := Int.mul_le_mul_of_nonneg_right (show m ≤ 1000000 by omega) (show 0 ≤ width - 3 * t by omega)
  have k2 : 0 ≤ m * (width - 3 * t) / 1000000 := Int.ediv_nonneg k0 (by decide)
  have k3 : m * (width - 3 * t) / 1000000 ≤ width - 3 * t := by omega
  exact ⟨ht, hq, tq, fun z h1 h2 => r z (by omega) (by omega)⟩

/-- the three sides -/
theorem base9_sides {p x m least lo width : Int} (hp : 1 ≤ p) (hp2 : p ≤ 30) (hx : 0 ≤ x) (hx2 : x ≤ 4) (m0 : 0 ≤ m) (m1 : m < 1000000)
    (side : (0 < x ∧ lo = 1 - 10 ^ (p + 2 + x + x).toNat ∧ width = 9 * 10 ^ (p + 2 + x + x - 1).toNat - 1) ∨ (0 < x ∧ lo = 10 ^ (p + 2 + x + x).toNat ∧ width = 9 * 10 ^ (p + 2 + x + x).toNat) ∨ (x = 0 ∧ lo = 0 ∧ width = 10 ^ (p + 2 + x + 1).toNat))
    (hl : lo + m * (width - 3 * l10 (p + 2 + x)) / 1000000 = least) : Base9 (p + 2 + x) x (l10 (p + 2 + x)) least := by
  obtain ⟨t0, -⟩ := l10_pos (q := p + 2 + x) (by omega) (by omega)
  obtain ⟨n1, n2⟩ := l10_near (q := p + 2 + x) (by omega) (by omega)
  have t1 := ten_pos (p + 2 + x - 1).toNat
  have e1 : (10 : Int) ^ (p + 2 + x).toNat = 10 * 10 ^ (p + 2 + x - 1).toNat := by
    have : (p + 2 + x).toNat = (p + 2 + x - 1).toNat + 1 := by omega
    rw [this, Int.pow_succ]; omega
  have tq : 10 ^ (p + 2 + x - 1).toNat < l10 (p + 2 + x) := by omega
  have h3 : (1000 : Int) ≤ 10 ^ (p + 2 + x).toNat := by
    have : (10 : Nat) ^ 3 ≤ 10 ^ (p + 2 + x).toNat := Nat.pow_le_pow_right (by decide) (by omega)
    exact_mod_cast this
  rcases side with ⟨s0, s1, s2⟩ | ⟨s0, s1, s2⟩ | ⟨s0, s1, s2⟩
  · have e2 : (10 : Int) ^ (p + 2 + x + x).toNat = 10 * 10 ^ (p + 2 + x + x - 1).toNat := by
      have : (p + 2 + x + x).toNat = (p + 2 + x + x - 1).toNat + 1 := by omega
      rw [this, Int.pow_succ]; omega
    have h4 : (10 : Int) ^ (p + 2 + x).toNat ≤ 10 ^ (p + 2 + x + x - 1).toNat := by
      have : (10 : Nat) ^ (p + 2 + x).toNat ≤ 10 ^ (p + 2 + x + x - 1).toNat := Nat.pow_le_pow_right (by decide) (by omega)
      exact_mod_cast this
    refine base9 t0 (by omega) tq (by omega) m0 m1 hl fun z h1 h2 => ?_
    exact dx9_neg (by omega) (by omega) (by omega) (by omega)
  · have h4 : (10 : Int) ^ (p + 2 + x).toNat ≤ 10 ^ (p + 2 + x + x).toNat := by
      have : (10 : Nat) ^ (p + 2 + x).toNat ≤ 10 ^ (p + 2 + x + x).toNat := Nat.pow_le_pow_right (by decide) (by omega)
      exact_mod_cast this
    refine base9 t0 (by omega) tq (by omega) m0 m1 hl fun z h1 h2 => ?_
    exact dx9_pos (by omega) (by omega) (by omega) (by omega)
  · have e2 : (10 : Int) ^ (p + 2 + x + 1).toNat = 10 * 10 ^ (p + 2 + x).toNat := by
      have : (p + 2 + x + 1).toNat = (p + 2 + x).toNat + 1 := by omega
      rw [this, Int.pow_succ]; omega
    subst s0
    refine base9 t0 (by omega) tq (by omega) m0 m1 hl fun z h1 h2 => ?_
    exact dx9_zero (by omega) (by omega) (by omega)
end Mine

end
set_option maxHeartbeats 8000000
open_top hd09 for PySem.Challenge.rw_dm0269_09

local macro_rules | `(tactic| walk_at "call builtin:divmod") => `(tactic| ((with_reducible show wpAny _ _ (call (Value.builtin _) [Value.int _ _, Value.int _ _]) _ _ _); refine divmod_N (by assumption) (by assumption) (by omega) ?_ (Mine.noPy (by assumption)); intro _ _ _))
local macro_rules | `(tactic| walk_at "pyIter ref") => `(tactic| (k_here; (with_reducible show wpAny _ _ (pyIter (Value.ref _)) _ _ _); refine Mine.Stop.out ?_))
local macro_rules | `(tactic| walk_at "binaryOp FloorDiv int int") => `(tactic| (k_here; (with_reducible show wpAny _ _ (binaryOp Operator.FloorDiv (Value.int _ _) (Value.int _ _)) _ _ _); refine Mine.Stop.out ?_))
local macro_rules | `(tactic| walk_at "call ref") => `(tactic| (k_here; (with_reducible show wpAny _ _ (call (Value.ref _) (Value.int _ _ :: _)) _ _ _); refine Mine.Stop.out ?_))
local macro_rules | `(tactic| walk_at "call type:str") => `(tactic| (k_here; (with_reducible show wpAny _ _ (call (Value.type "str") [Value.int _ _]) _ _ _); refine Mine.Stop.out ?_))
local macro_rules | `(tactic| walk_at "binaryOp LShift int int") => `(tactic| (k_here; (with_reducible refine lshift_int ?kbn ?kbs ?_); (case kbn => omega); (case kbs => first | exact Mine.abs_shl (Mine.Bd.out (by assumption)) (by omega) | exact Mine.shl_ok (Mine.Bd.out (by assumption)) (by omega))))
local macro_rules | `(tactic| walk_at "compareOp NotEq int int") => `(tactic| (with_reducible refine Mine.ne_same ?_))
local macro_rules | `(tactic| walk_at "binaryOp Mod int int") => `(tactic| (k_here; (with_reducible refine Mine.mod_gen ?hmb ?_); (case hmb => first | omega | decide | fail "the divisor"); intro r9 hr9 hs9))
local macro_rules | `(tactic| walk_at "UnrEndW") => `(tactic| (k_dflt ktu_end))
local macro_rules | `(tactic| walk_at "binaryOp Pow int int") => `(tactic| (k_here; (with_reducible refine pow_int_small ?kb1 ?kb2 ?kb3 ?_); (case kb1 => first | decide | omega); (case kb2 => first | decide | omega); (case kb3 => decide)))
namespace Mine
open PySem.Builtin.Int (intBits)
section
local macro_rules | `(tactic| omega) => `(tactic| lia)
variable {w : World} {loose : List Str} {mean : ExcName → Option Value} {mg mb : Str → Option Value} {news : List (Addr × Obj)} {dp un : Nat} {gd : Option (List Code)} {cn : Str} {cs : PySem.Scope} {ca : Addr} {ccd : Value} {cl : List (Str × Addr)} {outer : List Env} {A₀ : Around} {base h₀ : Heap} {L : Addr} {m : Str → Option Value} {s : Shared} {Q E : Value → Shared → Prop}
theorem c_div {a b : Int} {ta tb : Tok} (B : Below A₀ base outer h₀) (F : Fr h₀ L s.heap m) (X : (hd09.heap_39 w.params).In h₀) (N : News h₀ L s.heap news) (T : Top hd09.view_39 loose mean mg mb h₀) (hk : cs.kind = .function)
  (hb : 0 < b) (hb2 : intBits b ≤ 9000) (hd : dp + 2 < recursionLimit) (hu : un + 16 < cLine)
  (hret : ∀ (t : Tok) (h' : Heap) (tk' : Nat), Fr h₀ L h' m → News h₀ L h' news → Q (.int (divN a b) t) { s with heap := h', toks := tk' }) :
  wpAny (model PySem.Challenge.rw_dm0269_09.row.prog w) (ktrTop dp un gd cn cs L ca ccd cl outer) (call (.ref 35) [.int a ta, .int b tb]) Q E s := by
  revert X; k_fill; intro X
  refine wpAny_call ?_
  k_dflt cell_enter
  k_steps
  refine cb_retI (Q := Q) hret ?e1 ?e2 ?e3
  case e2 => k_asm
  case e3 => first | k_asm | (refine' cb_drop ?cbN ?cbS; (case cbN => assumption); (case cbS => kcj_all))
  case e1 => exact divN_of hb
theorem c_iexp {x M : Int} {ta tb : Tok} (B : Below A₀ base outer h₀) (F : Fr h₀ L s.heap m) (X : (hd09.heap_39 w.params).In h₀) (N : News h₀ L s.heap news) (T : Top hd09.view_39 loose mean mg mb h₀) (hk : cs.kind = .function)
  (hM : 0 < M) (hM2 : intBits M ≤ 1000) (hx : intBits x ≤ 2000) (hR : rOf M x 8 ≤ 1000)
  (he : ∀ j : Nat, (j : Int) < tOf M 8 → intBits (eS x (M * 2 ^ rOf M x 8) (tOf M 8) j) ≤ 3000)
  (hdd : ∀ j : Nat, j ≤ rOf M x 8 → intBits (dS M (rOf M x 8) (iexpY M x 8) j) ≤ 3000)
  (hd : dp + 4 < recursionLimit) (hu : un + 40 < cLine)
  (hret : ∀ (t : Tok) (h' : Heap) (tk' : Nat), Fr h₀ L h' m → News h₀ L h' news → Q (.int (iexpF M x 8) t) { s with heap := h', toks := tk' }) :
  wpAny (model PySem.Challenge.rw_dm0269_09.row.prog w) (ktrTop dp un gd cn cs L ca ccd cl outer) (call (.ref 83) [.int x ta, .int M tb]) Q E s := by
  revert X; k_fill; intro X
  have hxb := Bd.mk hx
  have hMb := Bd.mk hM2
  k_with "state" => first | exact rfl | exact eS_turn (by assumption) | exact dS_turn (by assumption) (by show _ < intBits ((_ * _) / _); omega)
  refine wpAny_call ?_
  k_dflt (refine' code_def ?k1 ?k2 ?k3 ?k4 ?k5 ?kA ?kF ?kK ?k6 ?k7 ?k8 ?k9 ?kB ?_ ?c2 ?c3 ?c4 ?c5; (case kA => exact rfl); (case kF => exact rfl); (case kK => assumption); (case k1 => k_asm); (case k2 => k_asm); (case k3 => k_asm); (case k4 => k_asm); (case k5 => k_asm); (case k6 => k_is); (case k7 => k_is); (case k8 => ktr_room); (case k9 => exact binds_K (by k_in) rfl (by k_is) rfl rfl rfl); (case c5 => decide); (case kB => exact locs rfl); (case c2 => exact rfl); (case c3 => exact rfl); (case c4 => exact rfl); k_whole; intro g' L' h' FG' F' N' B' X' T'; (try dsimp only); (try k_lift B'); (try k_fold))
  k_steps
  refine Stop.mk ?_
  refine floordiv_pos hM (bits_mono hM2) ?_
  k_steps
  refine Stop.mk ?_
  refine P.str_of_int (log_of_bits hM2) ?_
  k_steps
  refine len_digs hM2 ?_
  have hTp := tOf_pos (L := 8) (Int.le_of_lt hM) (by decide)
  have hTl := tOf_le (L := 8) (by decide) hM2 (by decide)
  have hTp' : 0 < -((-10 * digs M) / (3 * 8)) := hTp
  have hTl' : -((-10 * digs M) / (3 * 8)) ≤ 10 * (1000 + 1) := hTl
  have hR' : intBits ((x * 2 ^ Int.toNat 8) / M) ≤ 1000 := hR
  k_steps
  refine Stop.mk ?_
  refine floordiv_pos (by omega) (bits_small (b := 1000) (by omega) (by omega)) ?_
  k_steps
  refine Stop.mk ?_
  (with_unfolding_all refine' c_div ?k1_1 ?k2_1 ?k3_1 ?k4_1 ?k5_1 ?kK_1 ?kp_1 ?kq_1 ?kd_1 ?ku_1 ?kR_1); (case k1_1 => k_asm); (case k2_1 => k_asm); (case k3_1 => k_asm); (case k4_1 => k_asm); (case k5_1 => k_asm); (case kK_1 => first | exact rfl | assumption); (case kp_1 => exact hTp); (case kq_1 => exact bits_small hTp hTl); (case kd_1 => ktr_room); (case ku_1 => ktr_units); (intro t9 h9 tk9 F9 N9); (try dsimp only); (try k_fold)
  k_steps
  refine Stop.mk ?_
  have hMsp : 0 < M * 2 ^ rOf M x 8 := shl_pos hM _
  have hMsb : intBits (M * 2 ^ rOf M x 8) ≤ 2001 := shl_bits hM2 (by omega)
  k_state (fun pre y => y = eS x (M * 2 ^ rOf M x 8) (tOf M 8) pre.length) "y"
  · subst kInv
    have heb := he kPre.length (by show _ < -((-10 * digs M) / (3 * 8)); omega)
    have hsb : intBits (M * 2 ^ rOf M x 8 + eS x (M * 2 ^ rOf M x 8) (tOf M 8) kPre.length) ≤ 3001 := bits_mono (intBits_add_le hMsb heb)
    k_steps
    refine mul_int ?_ (mul_ok hx hsb)
    k_steps
    refine Stop.mk ?_
    (with_unfolding_all refine' c_div ?k1_2 ?k2_2 ?k3_2 ?k4_2 ?k5_2 ?kK_2 ?kp_2 ?kq_2 ?kd_2 ?ku_2 ?kR_2); (case k1_2 => k_asm); (case k2_2 => k_asm); (case k3_2 => k_asm); (case k4_2 => k_asm); (case k5_2 => k_asm); (case kK_2 => first | exact rfl | assumption); (case kp_2 => exact Int.mul_pos hMsp (by omega)); (case kq_2 => exact bits_mono (intBits_mul_le hMsb (PySem.intBits_le_64 (by omega) (by omega)))); (case kd_2 => ktr_room); (case ku_2 => ktr_units); (intro t9 h9 tk9 F9 N9); (try dsimp only); (try k_fold)
    k_steps
  · have kI2 : _ = iexpY M x 8 := kInv.trans (iexpY_of (by rw [downKs_length]; show _ = (-((-10 * digs M) / (3 * 8)) - 1).toNat; omega))
    clear kInv
    subst kI2
    k_steps
    refine Stop.mk ?_
    k_state (fun pre y => y = dS M (rOf M x 8) (iexpY M x 8) pre.length) "y"
    · subst kInv
      have hdb := hdd kPre.length (by show _ ≤ intBits ((x * 2 ^ Int.toNat 8) / M); omega)
      have hMkb : intBits (M * 2 ^ (kN + 2).toNat) ≤ 2010 := shl_bits hM2 (by omega)
      have hyM : intBits (dS M (rOf M x 8) (iexpY M x 8) kPre.length + M * 2 ^ (kN + 2).toNat) ≤ 3001 := bits_mono (intBits_add_le hdb hMkb)
      k_steps
      refine mul_int ?_ (mul_ok hdb hyM)
      k_steps
      refine Stop.mk ?_
      (with_unfolding_all refine' c_div ?k1_3 ?k2_3 ?k3_3 ?k4_3 ?k5_3 ?kK_3 ?kp_3 ?kq_3 ?kd_3 ?ku_3 ?kR_3); (case k1_3 => k_asm); (case k2_3 => k_asm); (case k3_3 => k_asm); (case k4_3 => k_asm); (case k5_3 => k_asm); (case kK_3 => first | exact rfl | assumption); (case kp_3 => exact shl_pos hM _); (case kq_3 => exact bits_mono hMkb); (case kd_3 => ktr_room); (case ku_3 => ktr_units); (intro t9 h9 tk9 F9 N9); (try dsimp only); (try k_fold)
      k_steps
    · subst kInv
      k_steps
      refine cb_retI (Q := Q) hret ?e1 ?e2 ?e3
      case e2 => k_asm
      case e3 => first | k_asm | (refine' cb_drop ?cbN ?cbS; (case cbN => assumption); (case cbS => kcj_all))
      case e1 => exact iexpF_of (by rw [downKs_length]; show _ = intBits ((x * 2 ^ Int.toNat 8) / M); omega)
theorem c_iexpV {x M v : Int} {ta tb : Tok} (B : Below A₀ base outer h₀) (F : Fr h₀ L s.heap m) (X : (hd09.heap_39 w.params).In h₀) (N : News h₀ L s.heap news) (T : Top hd09.view_39 loose mean mg mb h₀) (hk : cs.kind = .function)
  (hM : 0 < M) (hM2 : intBits M ≤ 1000) (hx : intBits x ≤ 2000) (hR : rOf M x 8 ≤ 1000)
  (he : ∀ j : Nat, (j : Int) < tOf M 8 → intBits (eS x (M * 2 ^ rOf M x 8) (tOf M 8) j) ≤ 3000)
  (hdd : ∀ j : Nat, j ≤ rOf M x 8 → intBits (dS M (rOf M x 8) (iexpY M x 8) j) ≤ 3000)
  (hv : iexpF M x 8 = v) (hd : dp + 4 < recursionLimit) (hu : un + 40 < cLine)
  (hret : ∀ (t : Tok) (h' : Heap) (tk' : Nat), Fr h₀ L h' m → News h₀ L h' news → Q (.int v t) { s with heap := h', toks := tk' }) :
  wpAny (model PySem.Challenge.rw_dm0269_09.row.prog w) (ktrTop dp un gd cn cs L ca ccd cl outer) (call (.ref 83) [.int x ta, .int M tb]) Q E s := by
  subst hv
  exact c_iexp B F X N T hk hM hM2 hx hR he hdd hd hu hret

theorem ret2 {x1 x2 y1 y2 : Int} {u1 u2 : Tok} {D : Addr} {h : Heap} {tk : Nat} {rest : List (Addr × Obj)} (hret : ∀ (D : Addr) (t1 t2 : Tok) (h' : Heap) (tk' : Nat), Fr h₀ L h' m → News h₀ L h' ((D, ({ cls := .type "tuple", data := .seq #[.int x1 t1, .int x2 t2] } : Obj)) :: news) → AllLt D news → Q (.ref D) { s with heap := h', toks := tk' })
    (e1 : y1 = x1) (e2 : y2 = x2) (F : Fr h₀ L h m) (N : News h₀ L h ((D, ({ cls := .type "tuple", data := .seq #[.int y1 u1, .int y2 u2] } : Obj)) :: rest)) (hs : ∀ p ∈ news, p ∈ rest) (hl : AllLt D news) : Q (.ref D) { s with heap := h, toks := tk } := by
  subst e1 e2
  refine hret D u1 u2 h tk F (fun p hp => N p ?_) hl
  rcases List.mem_cons.mp hp with h | h
  · rw [h]; exact List.mem_cons_self
  · exact List.mem_cons_of_mem _ (hs p h)
theorem callWith_KM {prog : Program} {w : World} {K : Frag} {A : Around} {E : Value → Shared → Prop} {Q : Value → Shared → Prop} {s : Shared} {h₀ : Heap} {q g : Addr} {self : Value} {pos : Pos} {env : Env} {first : List Value} {e : Expr} {rest : List Expr} (_X : K.In h₀) (hq : K.lookup q = some (methodObj (.ref g) self)) (hf : fnIn K g = true) (h : wpAny (model prog w) A (spliced (backTo pos (starEach (e :: rest) env))) (fun vs s₁ => K.In s₁.heap ∧ wpAny (model prog w) A (call (.ref q) (first ++ vs)) Q E s₁) E s)
    (he : starEach (e :: rest) env = (false, eval e env) :: starEach rest env := by rfl) (hplain : (backTo pos (starEach rest env)).any (·.1) = false := by rfl) :
    wpAny (model prog w) A (callWith pos (.ref q) first (backTo pos (starEach (e :: rest) env)) []) Q E s := by
  rw [he] at h ⊢
  exact callWith_of (by show ((false || (backTo pos (starEach rest env)).any (·.1)) || false) = false; rw [hplain]; rfl) (fun hh X => keeps_M hf hh ⟨X _ _ hq, X⟩) (PySem.Calls.evalArgs_plain h)
theorem c_l10 {q : Int} {ta : Tok} (B : Below A₀ base outer h₀) (F : Fr h₀ L s.heap m) (X : (hd09.heap_39 w.params).In h₀) (N : News h₀ L s.heap news) (T : Top hd09.view_39 loose mean mg mb h₀) (hk : cs.kind = .function)
  (hq : 0 ≤ q) (hq2 : q ≤ 46) (hd : dp + 2 < recursionLimit) (hu : un + 16 < cLine)
  (hret : ∀ (t : Tok) (h' : Heap) (tk' : Nat), Fr h₀ L h' m → News h₀ L h' news → Q (.int (l10 q) t) { s with heap := h', toks := tk' }) :
  wpAny (model PySem.Challenge.rw_dm0269_09.row.prog w) (ktrTop dp un gd cn cs L ca ccd cl outer) (call (.ref 75) [.int q ta]) Q E s := by
  revert X; k_fill; intro X
  refine wpAny_call ?_
  refine method_call (f := .ref 64) (self := .ref 73) (p := 75) ((X.keeps F.keep) _ _ rfl) ?_
  k_dflt cell_enter
  k_steps
  refine KIN.call_text (l10_text hq hq2).1 (l10_text hq hq2).2 ?_
  k_steps
  refine cb_retI (Q := Q) hret ?e1 ?e2 ?e3
  case e2 => k_asm
  case e3 => first | k_asm | (refine' cb_drop ?cbN ?cbS; (case cbN => assumption); (case cbS => kcj_all))
  case e1 => exact rfl
local macro_rules | `(tactic| walk_at "callWith ref") => `(tactic| (k_here; (with_reducible show wpAny _ _ (callWith _ (Value.ref _) _ _ _) _ _ _); (refine' Mine.callWith_KM ?k1 ?k2 ?k3 ?_); (case k1 => k_asm); (case k2 => exact rfl); (case k3 => k_is); k_whole))
local macro_rules | `(tactic| walk_at "storeName") => `(tactic| (k_here; (with_reducible show wpAny _ _ (storeName _ (PySem.Str.ofString "extra") (Value.int _ _)) _ _ _); refine Mine.Stop.out ?_))
local macro_rules | `(tactic| walk_at "storeName") => `(tactic| (k_here; (with_reducible show wpAny _ _ (storeName _ (PySem.Str.ofString "cshift") (Value.int _ _)) _ _ _); refine Mine.Stop.out ?_))
theorem c_dexp {c e p : Int} {ta tb tc : Tok} (B : Below A₀ base outer h₀) (F : Fr h₀ L s.heap m) (X : (hd09.heap_39 w.params).In h₀) (N : News h₀ L s.heap news) (T : Top hd09.view_39 loose mean mg mb h₀) (hk : cs.kind = .function)
  (hc : intBits c ≤ 1000) (he : -200 ≤ e) (he2 : e ≤ 0) (hp : 0 ≤ p) (hp2 : p ≤ 44) (hq2 : p + 2 + dxX c e ≤ 46) (hsh : 0 ≤ e + (p + 2 + dxX c e)) (hE : PreE (10 ^ (p + 2).toNat) (dxR c e p) 8) (hd : dp + 8 < recursionLimit) (hu : un + 80 < cLine)
  (hret : ∀ (D : Addr) (t1 t2 : Tok) (h' : Heap) (tk' : Nat), Fr h₀ L h' m → News h₀ L h' ((D, ({ cls := .type "tuple", data := .seq #[.int (dexpD c e p) t1, .int (dexpE c e p) t2] } : Obj)) :: news) → AllLt D news → Q (.ref D) { s with heap := h', toks := tk' }) :
  wpAny (model PySem.Challenge.rw_dm0269_09.row.prog w) (ktrTop dp un gd cn cs L ca ccd cl outer) (call (.ref 90) [.int c ta, .int e tb, .int p tc]) Q E s := by
  revert X; k_fill; intro X
  refine wpAny_call ?_
  k_dflt cell_enter
  k_steps
  refine Stop.mk ?_
  refine P.str_of_int (log_of_bits hc) ?_
  k_steps
  refine len_digs hc ?_
  k_steps
  refine Stop.mk ?_
  refine gen_int (P := fun x => wpAny _ _ (storeName _ _ (Value.int x _)) _ _ _) _ ?_
  intro x hx
  have hx' : dxX c e = x := hx
  have hx0 : 0 ≤ x := dxX_nn hx
  clear hx
  rw [hx'] at hq2 hsh
  obtain ⟨hl1, hl2⟩ := l10_pos (q := p + 2 + x) (by omega) hq2
  have hl3 : intBits (l10 (p + 2 + x)) ≤ 9000 := l10_bits (by omega) hq2
  refine storeX_L (by k_asm) (by k_asm) ?_
  intro h' F' N'
  k_steps
  · refine mul_int ?_ (mul_ok hc (ten_bits (by omega)))
    k_steps
    refine Stop.mk ?_
    refine gen_int (P := fun x => wpAny _ _ (storeName _ _ (Value.int x _)) _ _ _) _ ?_
    intro C hC0
    have hC : dxC c e p = C := dxC_up hx' (by omega) hC0
    clear hC0
    refine storeX_L (by k_asm) (by k_asm) ?_
    intro h' F' N'
    k_steps
    refine Stop.mk ?_
    (with_unfolding_all refine' c_l10 ?k1_1 ?k2_1 ?k3_1 ?k4_1 ?k5_1 ?kK_1 ?kp_1 ?kq_1 ?kd_1 ?ku_1 ?kR_1); (case k1_1 => k_asm); (case k2_1 => k_asm); (case k3_1 => k_asm); (case k4_1 => k_asm); (case k5_1 => k_asm); (case kK_1 => first | exact rfl | assumption); (case kp_1 => omega); (case kq_1 => omega); (case kd_1 => ktr_room); (case ku_1 => ktr_units); (intro t9 h9 tk9 F9 N9); (try dsimp only); (try k_fold)
    k_steps
    refine Stop.mk ?_
    (with_unfolding_all refine' c_div ?k1_2 ?k2_2 ?k3_2 ?k4_2 ?k5_2 ?kK_2 ?kp_2 ?kq_2 ?kd_2 ?ku_2 ?kR_2); (case k1_2 => k_asm); (case k2_2 => k_asm); (case k3_2 => k_asm); (case k4_2 => k_asm); (case k5_2 => k_asm); (case kK_2 => first | exact rfl | assumption); (case kp_2 => exact ten_pos _); (case kq_2 => exact bits_mono (ten_bits (by omega))); (case kd_2 => ktr_room); (case ku_2 => ktr_units); (intro t9 h9 tk9 F9 N9); (try dsimp only); (try k_fold)
    k_steps
    refine Stop.mk ?_
    have hR : divN (C.fmod (l10 (p + 2 + x))) (10 ^ x.toNat) = dxR c e p := dxR_of hx' hC hl1
    rw [hR]
    (with_unfolding_all refine' c_iexp ?k1_3 ?k2_3 ?k3_3 ?k4_3 ?k5_3 ?kK_3 ?kp_3 ?kq_3 ?kr_3 ?ks_3 ?kt_3 ?kw_3 ?kd_3 ?ku_3 ?kR_3); (case k1_3 => k_asm); (case k2_3 => k_asm); (case k3_3 => k_asm); (case k4_3 => k_asm); (case k5_3 => k_asm); (case kK_3 => first | exact rfl | assumption); (case kp_3 => exact ten_pos _); (case kq_3 => exact bits_mono (ten_bits46 (by omega))); (case kr_3 => exact hE.b); (case ks_3 => exact hE.r); (case kt_3 => exact hE.e); (case kw_3 => exact hE.d); (case kd_3 => ktr_room); (case ku_3 => ktr_units); (intro t9 h9 tk9 F9 N9); (try dsimp only); (try k_fold)
    k_steps
    refine Stop.mk ?_
    (with_unfolding_all refine' c_div ?k1_4 ?k2_4 ?k3_4 ?k4_4 ?k5_4 ?kK_4 ?kp_4 ?kq_4 ?kd_4 ?ku_4 ?kR_4); (case k1_4 => k_asm); (case k2_4 => k_asm); (case k3_4 => k_asm); (case k4_4 => k_asm); (case k5_4 => k_asm); (case kK_4 => first | exact rfl | assumption); (case kp_4 => decide); (case kq_4 => exact bits_small (b := 1000) (by decide) (by decide)); (case kd_4 => ktr_room); (case ku_4 => ktr_units); (intro t9 h9 tk9 F9 N9); (try dsimp only); (try k_fold)
    k_steps
    refine' ret2 (Q := Q) hret ?e1_5 ?e2_5 ?e3_5 ?e4_5 ?e5_5 ?e6_5
    case e3_5 => k_asm
    case e4_5 => k_asm
    case e5_5 => intro p hp; exact List.mem_cons_of_mem _ hp
    case e6_5 => exact (by assumption : _ ∧ AllLt _ _).2
    case e1_5 => exact rfl
    case e2_5 => rw [dxQ_of hx' hC hl1]; exact rfl

theorem c_dexpV {c e p d f : Int} {ta tb tc : Tok} (B : Below A₀ base outer h₀) (F : Fr h₀ L s.heap m) (X : (hd09.heap_39 w.params).In h₀) (N : News h₀ L s.heap news) (T : Top hd09.view_39 loose mean mg mb h₀) (hk : cs.kind = .function)
  (hc : intBits c ≤ 1000) (he : -200 ≤ e) (he2 : e ≤ 0) (hp : 0 ≤ p) (hp2 : p ≤ 44) (hq2 : p + 2 + dxX c e ≤ 46) (hsh : 0 ≤ e + (p + 2 + dxX c e)) (hE : PreE (10 ^ (p + 2).toNat) (dxR c e p) 8) (hv1 : dexpD c e p = d) (hv2 : dexpE c e p = f) (hd : dp + 8 < recursionLimit) (hu : un + 80 < cLine)
  (hret : ∀ (D : Addr) (t1 t2 : Tok) (h' : Heap) (tk' : Nat), Fr h₀ L h' m → News h₀ L h' ((D, ({ cls := .type "tuple", data := .seq #[.int d t1, .int f t2] } : Obj)) :: news) → AllLt D news → Q (.ref D) { s with heap := h', toks := tk' }) :
  wpAny (model PySem.Challenge.rw_dm0269_09.row.prog w) (ktrTop dp un gd cn cs L ca ccd cl outer) (call (.ref 90) [.int c ta, .int e tb, .int p tc]) Q E s := by
  subst hv1 hv2
  exact c_dexp B F X N T hk hc he he2 hp hp2 hq2 hsh hE hd hu hret
theorem gen_toks {P : Nat → Prop} (n : Nat) (h : ∀ k, P k) : P n := h n
theorem gen_int2 {P : Int → Tok → Prop} (v : Int) (t : Tok) (h : ∀ x u, v = x → P x u) : P v t := h v t rfl
theorem fold_if {P : Int → Prop} [DecidablePred P] : ∀ (ks l : List Int), ks.foldl (fun l k => if P k then l ++ [k] else l) l = l ++ ks.filter (fun k => decide (P k))
  | [], l => by simp
  | k :: r, l => by
    rw [List.foldl_cons, fold_if r]
    by_cases h : P k
    · rw [if_pos h, List.filter_cons_of_pos (by simpa using h), List.append_assoc]; rfl
    · rw [if_neg h, List.filter_cons_of_neg (by simpa using h)]
theorem stp_fold (Q y : Int) : (((rangeKs 0 10).foldl (fun (l : List Int) (k : Int) => if Q * 2 ^ k.toNat ≤ 256 * y then l ++ [k] else l) []).length : Int) = (stp Q y : Int) := by
  rw [fold_if (P := fun k => Q * 2 ^ k.toNat ≤ 256 * y), List.nil_append]
  unfold stp rangeKs
  rw [List.filter_map, List.length_map]
  congr 3
  funext j
  have : (0 + (j : Int)).toNat = j := by omega
  simp only [Function.comp_apply, this]
local macro_rules | `(tactic| walk_at "CompSrcT") => `(tactic| (k_here; refine Mine.Stop.out ?_))
theorem c_steps {y q : Int} {ta tb : Tok} (B : Below A₀ base outer h₀) (F : Fr h₀ L s.heap m) (X : (hd09.heap_39 w.params).In h₀) (N : News h₀ L s.heap news) (T : Top hd09.view_39 loose mean mg mb h₀) (hk : cs.kind = .function)
  (hy : intBits y ≤ 1000) (hq : 0 ≤ q) (hq2 : q ≤ 46) (hd : dp + 4 < recursionLimit) (hu : un + 40 < cLine)
  (hret : ∀ (t : Tok) (h' : Heap) (tk' : Nat), Fr h₀ L h' m → News h₀ L h' news → Q (.int (stp (10 ^ q.toNat) y : Int) t) { s with heap := h', toks := tk' }) :
  wpAny (model PySem.Challenge.rw_dm0269_09.row.prog w) (ktrTop dp un gd cn cs L ca ccd cl outer) (call (.ref 95) [.int y ta, .int q tb]) Q E s := by
  revert X; k_fill; intro X
  refine wpAny_call ?_
  k_dflt (refine' code_defC ?k1 ?k2 ?k3 ?k4 ?k5 ?kA ?kF ?kK ?k6 ?k7 ?k8 ?k9 ?kB ?kD ?_ ?c2 ?c3 ?c4; (case kA => exact rfl); (case kF => exact rfl); (case kK => assumption); (case k1 => k_asm); (case k2 => k_asm); (case k3 => k_asm); (case k4 => k_asm); (case k5 => k_asm); (case k6 => k_is); (case k7 => k_is); (case k8 => ktr_room); (case k9 => exact BindsTo.of_eq rfl); (case kB => exact rfl); (case kD => decide +kernel); (case c2 => exact rfl); (case c3 => exact rfl); (case c4 => exact rfl); k_whole; intro g' L' h' tk' cells' FG' F' N' Y' B' X' T' l1; (try k_lt l1); k_cells Y'; (try simp only [List.cons_append, List.nil_append] at N'); (try dsimp only); (try k_lift B'); (try k_fold))
  have hBd : Bd 200 ((10 : Int) ^ q.toNat) := ⟨ten_bits46 (by omega)⟩
  k_steps
  refine Stop.mk ?_
  refine LCt.CompSrcT.range (by rfl) (by k_asm) (by k_asm) (by assumption) (by decide) (by exact rangeSize_nat _ _) (by exact Nat.le_of_ble_eq_true rfl) ?_
  intro g9
  refine' kci_range (fun (l : List Int) (k : Int) => if 10 ^ q.toNat * 2 ^ k.toNat ≤ 256 * y then l ++ [k] else l) (fun k' t' I' oI' C' oC' D' m' ys' l' h' tk' E' hlo' hhi' hI' hC' hx' F' N' off' ne' => ?gt) ?gf ?gg
  case gt =>
    (show KPfMark → _)
    intro hMark'
    k_steps
    · exact LCg.CompEnd.intro (by assumption) (by assumption) _ (fun p hp => hp) off' trivial (kci_el (if_pos (by assumption)) rfl rfl)
    · exact LCg.CompEnd.intro (by assumption) (by assumption) _ (fun p hp => hp) off' trivial (kci_no (if_neg (by assumption)) rfl)
  case gf =>
    k_steps
    refine cb_retI (Q := Q) hret ?e1 ?e2 ?e3
    case e2 => k_asm
    case e3 => first | k_asm | (refine' cb_drop ?cbN ?cbS; (case cbN => assumption); (case cbS => kcj_all))
    case e1 => exact stp_fold _ _
  case gg =>
    k_steps

end
end Mine

namespace Mine
section
open PySem.Calls PyProof.V PySem.Spec
open PySem.Builtin.Int (intBits)
theorem bits_dx {z q x : Int} (hq : 0 ≤ q) (hq2 : q ≤ 46) (hx : 0 ≤ x) (hx2 : x ≤ 4) (h : dxX z (-q) = x) : intBits z ≤ 300 := by
  have k := c_size hq h hx
  refine bits_abs (b := 10 ^ (x + 1 + q).toNat) (by omega) (by omega) ?_
  refine intBits_le_iff.mpr ?_
  rw [Int.natAbs_pow]
  have h1 : (10 : Nat) ^ (x + 1 + q).toNat ≤ 10 ^ 60 := Nat.pow_le_pow_right (by decide) (by omega)
  have h2 : (10 : Nat) ^ 60 < 2 ^ 300 := by decide +kernel
  exact Nat.lt_of_le_of_lt h1 h2
structure B9 (p x q t least : Int) : Prop where
  p1 : 1 ≤ p
  p2 : p ≤ 30
  x1 : 0 ≤ x
  x2 : x ≤ 4
  hq : p + 2 + x = q
  ht : l10 q = t
  B : Base9 q x t least
  lb : intBits least ≤ 300
theorem b9_of {p x q t m lo width least : Int} (hp1 : 1 ≤ p) (hp2 : p ≤ 30) (hx1 : 0 ≤ x) (hx2 : x ≤ 4) (hq : p + 2 + x = q) (ht : l10 q = t) (m0 : 0 ≤ m) (m1 : m < 10 ^ Int.toNat 6)
    (hl : lo + m * (width - 3 * t) / 10 ^ Int.toNat 6 = least)
    (side : (0 < x ∧ lo = 1 - 10 ^ (q + x).toNat ∧ width = 9 * 10 ^ (q + x - 1).toNat - 1) ∨ (0 < x ∧ lo = 10 ^ (q + x).toNat ∧ width = 9 * 10 ^ (q + x).toNat) ∨ (x = 0 ∧ lo = 0 ∧ width = 10 ^ (q + 1).toNat)) : B9 p x q t least := by
  subst hq ht
  have e6 : (10 : Int) ^ Int.toNat 6 = 1000000 := by decide
  rw [e6] at m1 hl
  have B := base9_sides hp1 hp2 hx1 hx2 m0 m1 side hl
  have t0 := B.t0
  exact ⟨hp1, hp2, hx1, hx2, rfl, rfl, B, bits_dx (by omega) (by omega) hx1 hx2 (B.dx least (by omega) (by omega))⟩
theorem w9_bits {q x : Int} {n : Nat} (h : n ≤ 60) : intBits ((10 : Int) ^ n) ≤ 300 := by
  refine intBits_le_iff.mpr ?_
  rw [Int.natAbs_pow]
  have h1 : (10 : Nat) ^ n ≤ 10 ^ 60 := Nat.pow_le_pow_right (by decide) h
  have h2 : (10 : Nat) ^ 60 < 2 ^ 300 := by decide +kernel
  exact Nat.lt_of_le_of_lt h1 h2
theorem t9_bits {q t : Int} (hq : 0 ≤ q) (hq2 : q ≤ 46) (ht : l10 q = t) : intBits t ≤ 160 := by
  subst ht
  obtain ⟨a, b⟩ := l10_pos hq hq2
  exact bits_lt (by omega) b
theorem wd_bits {a t : Int} (h : intBits a ≤ 400) (ht : intBits t ≤ 160) : intBits (a - 3 * t) ≤ 500 := by
  rw [Int.sub_eq_add_neg]
  exact bits_mono (intBits_add_le h (intBits_neg_le (intBits_mul_le (m := 64) (PySem.intBits_le_64 (by decide) (by decide)) ht)))
theorem m6_bits {m : Int} (h0 : 0 ≤ m) (h1 : m < 10 ^ Int.toNat 6) : intBits m ≤ 64 := by
  have e6 : (10 : Int) ^ Int.toNat 6 = 1000000 := by decide
  exact PySem.intBits_le_64 (by omega) (by omega)
theorem w9c {n : Nat} (h : n ≤ 60) : intBits ((10 : Int) ^ n) ≤ 400 := bits_mono (w9_bits (q := 0) (x := 0) h)
theorem w9b {n : Nat} (h : n ≤ 60) : intBits (9 * (10 : Int) ^ n) ≤ 400 := bits_mono (intBits_mul_le (m := 64) (PySem.intBits_le_64 (by decide) (by decide)) (w9_bits (q := 0) (x := 0) h))
theorem w9a {n : Nat} (h : n ≤ 60) : intBits (9 * (10 : Int) ^ n - 1) ≤ 400 := by
  rw [Int.sub_eq_add_neg]
  exact bits_mono (intBits_add_le (m := 364) (n := 64) (intBits_mul_le (m := 64) (PySem.intBits_le_64 (by decide) (by decide)) (w9_bits (q := 0) (x := 0) h)) (PySem.intBits_le_64 (by decide) (by decide)))
theorem q9_bits {a t : Int} (h : intBits a ≤ 300) : intBits (a / t + 1) ≤ 310 :=
  bits_mono (intBits_add_le (m := 300) (n := 64) (intBits_le_of_natAbs (Int.natAbs_ediv_le_natAbs a t) h) (PySem.intBits_le_64 (by decide) (by decide)))
theorem c9_bounds {least m t c : Int} (t0 : 0 < t) (m0 : 0 ≤ m) (m1 : m < 10 ^ Int.toNat 6) (h : least + m * 2 * t / 10 ^ Int.toNat 6 = c) : least ≤ c ∧ c < least + 2 * t := by
  have e6 : (10 : Int) ^ Int.toNat 6 = 1000000 := by decide
  rw [e6] at m1 h
  have k0 : 0 ≤ m * 2 * t := Int.mul_nonneg (by omega) (by omega)
  have k1 := Int.mul_le_mul_of_nonneg_right (show m * 2 ≤ 1999998 by omega) (show 0 ≤ t by omega)
  have k2 : 0 ≤ m * 2 * t / 1000000 := Int.ediv_nonneg k0 (by decide)
  omega
structure R9 (q x t Q0 : Int) (n : Nat) (pts : List Int) : Prop where
  row : Row9 q x t Q0 pts
  len : pts.length = 2 + 2 * n
theorem R9.start {q x t least : Int} (B : Base9 q x t least) : R9 q x t (least / t) 0 [(least / t + 1) * t - 1, (least / t + 1) * t] := ⟨Row9.start B, rfl⟩
theorem row9_turn {q x t least c r u : Int} {pre pts : List Int} (h : R9 q x t (least / t) pre.length pts) (B : Base9 q x t least) (hc : least ≤ c ∧ c < least + 2 * t) (r0 : 0 ≤ r) (r1 : r < q) :
    R9 q x t (least / t) (pre ++ [u]).length (pts ++ [c, c + 10 ^ r.toNat]) := by
  refine ⟨h.row.grow B hc.1 hc.2 ?_ ?_, ?_⟩
  · have := ten_pos r.toNat
    omega
  · have : (10 : Nat) ^ r.toNat ≤ 10 ^ (q - 1).toNat := Nat.pow_le_pow_right (by decide) (by omega)
    exact_mod_cast this
  · have := h.len
    simp only [List.length_append, List.length_cons, List.length_nil]
    omega
theorem pre9 {w pre post : List Int} {n : Nat} {k : Int} (h : [0, 1] ++ List.take (min 9 n - 3) (List.drop 3 w) = pre ++ k :: post) : pre.length ≤ 8 := by
  have := congrArg List.length h
  simp only [List.length_append, List.length_cons, List.length_nil, List.length_take] at this
  omega
theorem long9 {ws : List Value} {a b : Value} (h : ws.length ≤ 100) : ¬ (!ws.toArray.isEmpty && Builtin.List.listTooLong (ws.toArray.size + #[a, b].size)) = true := by
  intro k
  have k2 := (Bool.and_eq_true_iff.mp k).2
  unfold Builtin.List.listTooLong at k2
  rw [PySem.sizeLine_eq] at k2
  have k3 := of_decide_eq_true k2
  simp only [List.size_toArray, List.length_cons, List.length_nil] at k3
  omega
theorem all9 {w : List Int} {n : Nat} : ([0, 1] ++ List.take (min 9 n - 3) (List.drop 3 w)).length ≤ 8 := by
  simp only [List.length_append, List.length_cons, List.length_nil, List.length_take]
  omega
theorem len9 {w l : List Int} {n : Nat} (h : l.length = 2 + 2 * ([0, 1] ++ List.take (min 9 n - 3) (List.drop 3 w)).length) : l.length ≤ 18 := by
  have := all9 (w := w) (n := n)
  omega
theorem ext9 (ws : List Value) (a b : Value) : ws.toArray.toList ++ (#[a, b] : Array Value).toList = ws ++ [a, b] := by simp
theorem extend9 {prog : Program} {w : World} {A : Around} {E : Value → Shared → Prop} {s : Shared} {h₀ : Heap} {L D bb : Addr} {m : Str → Option Value} {news : List (Addr × Obj)} {news' : Obj → List (Addr × Obj)} {vs : List Value} {ns : List Int} {a b : Int} {t u : Tok} {n n2 : Nat} {Q : Value → Shared → Prop}
    (F : Fr h₀ L s.heap m) (N : News h₀ L s.heap news) (hb : (bb, listOf #[.int a t, .int b u] n2) ∈ news) (U : ∀ o, Upd D (listOf vs.toArray n) o news (news' o)) (hi : IntsAre vs ns) (hl : vs.length ≤ 100)
    (h : ∀ ws c h', IntsAre ws (ns ++ [a, b]) → Fr h₀ L h' m → News h₀ L h' (news' (listOf (List.toArray ws) c)) → Q .none { s with heap := h' }) : wpAny (model prog w) A (call (.builtin "list.extend") [.ref D, .ref bb]) Q E s := by
  refine kl_extend F N hb (ext9 vs _ _) (Nat.succ_ne_zero _) (U _) (long9 hl) ?_ ?_ (fun h' F' N' => h _ _ h' (IntsAre.append hi (.cons a t (.cons b u .nil))) F' N')
  · rw [PySem.sizeLine_eq]; simp only [List.size_toArray]; show vs.length ≤ _; omega
  · rw [PySem.sizeLine_eq]; simp only [List.size_toArray, List.length_cons, List.length_nil]; omega
theorem fr_has4 {h₀ h : Heap} {L : Addr} {m : Str → Option Value} {a1 a2 a3 a4 : Str} {v1 v2 v3 v4 : Value} (e1 : m a1 = some v1) (e2 : m a2 = some v2) (e3 : m a3 = some v3) (e4 : m a4 = some v4) (F : Fr h₀ L h m) :
    Fr h₀ L h (fun y => if y = a1 then some v1 else if y = a2 then some v2 else if y = a3 then some v3 else if y = a4 then some v4 else m y) := by
  have e : m = (fun y => if y = a1 then some v1 else if y = a2 then some v2 else if y = a3 then some v3 else if y = a4 then some v4 else m y) := by
    funext y
    split
    · rename_i h; rw [h, e1]
    · split
      · rename_i h; rw [h, e2]
      · split
        · rename_i h; rw [h, e3]
        · split
          · rename_i h; rw [h, e4]
          · rfl
  rw [← e]; exact F
/-- the law from the row on, whatever the side; p and q lie in cells -/
def Tail9 (M : Model) (A : Around) (t : Sem Flow) (E : Value → Shared → Prop) (h₀ : Heap) (L : Addr) (sv : Value) : Prop :=
  ∀ (p x q t1 least : Int) (tp tx tq tt tl : Tok) (oP oQ : Obj) (m : Str → Option Value) (s : Shared) (Q : Flow → Shared → Prop),
    B9 p x q t1 least → Fr h₀ L s.heap m → News h₀ L s.heap [(L + 1 + 1, oQ), (L + 1, oP)] → oP.data = .cell (some (.int p tp)) → oQ.data = .cell (some (.int q tq)) →
    m (Str.ofString "script") = some sv → m (Str.ofString "x") = some (.int x tx) → m (Str.ofString "t") = some (.int t1 tt) → m (Str.ofString "least") = some (.int least tl) →
    (∀ (m' : Str → Option Value) (h' : Heap) (tk' : Nat), Fr h₀ L h' m' → Q (.ret (.bool true)) { s with heap := h', toks := tk' }) →
    wpAny M A t Q E s
theorem cut9 {M : Model} {A : Around} {env : Env} {stmts : List Stmt} {Q : Flow → Shared → Prop} {E : Value → Shared → Prop} {s : Shared} {h₀ : Heap} {L : Addr} {m : Str → Option Value} {sv : Value} (_ : Fr h₀ L s.heap m) (_ : m (Str.ofString "script") = some sv)
    (C1 : Tail9 M A (execs (stmts.drop 7) env) E h₀ L sv) (h : Tail9 M A (execs (stmts.drop 7) env) E h₀ L sv → wpAny M A (execs stmts env) Q E s) : wpAny M A (execs stmts env) Q E s := h C1
theorem tail9_use {M : Model} {A : Around} {t : Sem Flow} {E : Value → Shared → Prop} {h₀ : Heap} {L : Addr} {sv : Value} {p x q t1 least : Int} {tp tx tq tt tl : Tok} {oP oQ : Obj} {m : Str → Option Value} {s : Shared} {Q : Flow → Shared → Prop}
    (C : Tail9 M A t E h₀ L sv) (BB : B9 p x q t1 least) (F : Fr h₀ L s.heap m) (e0 : m (Str.ofString "script") = some sv) (e1 : m (Str.ofString "x") = some (.int x tx)) (e2 : m (Str.ofString "t") = some (.int t1 tt)) (e3 : m (Str.ofString "least") = some (.int least tl))
    (N : News h₀ L s.heap [(L + 1 + 1, oQ), (L + 1, oP)]) (hoP : oP.data = .cell (some (.int p tp))) (hoQ : oQ.data = .cell (some (.int q tq)))
    (k : ∀ (m' : Str → Option Value) (h' : Heap) (tk' : Nat), Fr h₀ L h' m' → Q (.ret (.bool true)) { s with heap := h', toks := tk' }) : wpAny M A t Q E s :=
  C p x q t1 least tp tx tq tt tl oP oQ m s Q BB F N hoP hoQ e0 e1 e2 e3 k
/-- a told pair as an object -/
def tup9 (d : Int) (t : Tok) (f : Int) (u : Tok) : Obj := { cls := .type "tuple", data := .seq #[.int d t, .int f u] }
/-- the list of the told pairs: ts are the tuples, newest first -/
structure Told9 (f g : Int → Int) (ks : List Int) (i : Nat) (ys : List Value) (ts : List (Addr × Obj)) : Prop where
  len : ys.length = i
  at' : ∀ j k, j < i → ks[j]? = some k → ∃ D t u, ys[j]? = some (.ref D) ∧ (D, tup9 (f k) t (g k) u) ∈ ts
section
variable {prog : Program} {w : World} {A : Around} {h₀ : Heap} {L : Addr} {m : Str → Option Value} {env : Env} {elt : Expr} {x : Str} {scope : Scope} {cl : List (Str × Addr)} {s : Shared} {S : List (Addr × Obj) → Prop} {P : Nat → Value → Prop} {Fin : List Value → List (Addr × Obj) → Prop} {news : List (Addr × Obj)}
theorem comp_tup {n : Nat} {ks : List Int} (f g : Int → Int) (hks : ks.length = n) (hP : ∀ i v, i < n → P i v → ∃ k t, ks[i]? = some k ∧ v = .int k t)
    (turn : ∀ k t I oI C oC D m₂ ys nw h tk (E' : Value → Shared → Prop), k ∈ ks → LCg.NsObj oC m₂ → m₂ x = some (.int k t) → Fr h₀ L h m → (∀ p ∈ news, p ∈ nw) → News h₀ L h ((I, oI) :: (C, oC) :: (D, LCg.lst ys) :: nw) → LCg.Off3 I C D nw → ((@Ne Nat I C) ∧ (@Ne Nat I D) ∧ (@Ne Nat C D)) →
      wpAny (model prog w) A (eval elt (compEnvC scope cl C env)) (LCg.CompEnd h₀ L m { s with heap := h, toks := tk } I oI C oC D (LCg.lst ys) S (fun y news' => ∃ D9 t1 t2, y = .ref D9 ∧ news' = (D9, tup9 (f k) t1 (g k) t2) :: nw)) E' { s with heap := h, toks := tk })
    (fin : ∀ ys ts, Told9 f g ks n ys ts → Fin ys (ts ++ news)) : LCg.CompRest prog w A h₀ L m env elt x scope cl s S P Fin n 0 [] news := by
  have key : ∀ (j i : Nat) (ys : List Value) (ts : List (Addr × Obj)), i + j = n → Told9 f g ks i ys ts → LCg.CompRest prog w A h₀ L m env elt x scope cl s S P Fin j i ys (ts ++ news) := by
    intro j
    induction j with
    | zero =>
      intro i ys ts hi hy
      have e : i = n := by omega
      rw [e] at hy
      exact LCg.CompRest.zero (fin ys ts hy)
    | succ j ih =>
      intro i ys ts hi hy
      refine LCg.CompRest.succ ?_
      intro v I oI C oC D m₂ h tk E' hv hC hx F N off ne
      obtain ⟨k, t, hk, hv'⟩ := hP i v (by omega) hv
      rw [hv'] at hx
      refine wpAny_mono (turn k t I oI C oC D m₂ ys (ts ++ news) h tk E' (List.mem_of_getElem? hk) hC hx F (fun p hp => List.mem_append_right _ hp) N off ne) (fun y s₂ hq => ?_) fun _ _ e => e
      obtain ⟨h', tk', nw, e, F', N', off', hS, D9, t1, t2, hy', hn⟩ := hq
      rw [hn] at N' off' hS
      refine ⟨h', tk', (D9, tup9 (f k) t1 (g k) t2) :: (ts ++ news), e, F', N', off', hS, ?_⟩
      rw [hy', ← List.cons_append]
      refine ih (i + 1) _ _ (by omega) ⟨by rw [List.length_append, List.length_singleton, hy.len], fun j' k' hj hk' => ?_⟩
      rcases Nat.lt_or_ge j' i with h1 | h1
      · obtain ⟨D', t', u', a1, a2⟩ := hy.at' j' k' h1 hk'
        refine ⟨D', t', u', ?_, List.mem_cons_of_mem _ a2⟩
        rw [List.getElem?_append_left (by rw [hy.len]; exact h1)]
        exact a1
      · have e2 : j' = i := by omega
        subst e2
        rw [hk] at hk'
        cases hk'
        refine ⟨D9, t1, t2, ?_, List.mem_cons_self⟩
        rw [List.getElem?_append_right (by rw [hy.len]; exact Nat.le_refl _), hy.len, Nat.sub_self]
        rfl
  exact key n 0 [] [] (by omega) ⟨rfl, fun j k hj => absurd hj (Nat.not_lt_zero j)⟩
theorem comp_tup_list {vs : List Value} {ns : List Int} (f g : Int → Int) (hi : IntsAre vs ns)
    (turn : ∀ k t I oI C oC D m₂ ys nw h tk (E' : Value → Shared → Prop), k ∈ ns → LCg.NsObj oC m₂ → m₂ x = some (.int k t) → Fr h₀ L h m → (∀ p ∈ news, p ∈ nw) → News h₀ L h ((I, oI) :: (C, oC) :: (D, LCg.lst ys) :: nw) → LCg.Off3 I C D nw → ((@Ne Nat I C) ∧ (@Ne Nat I D) ∧ (@Ne Nat C D)) →
      wpAny (model prog w) A (eval elt (compEnvC scope cl C env)) (LCg.CompEnd h₀ L m { s with heap := h, toks := tk } I oI C oC D (LCg.lst ys) S (fun y news' => ∃ D9 t1 t2, y = .ref D9 ∧ news' = (D9, tup9 (f k) t1 (g k) t2) :: nw)) E' { s with heap := h, toks := tk })
    (fin : ∀ ys ts, Told9 f g ns ns.length ys ts → Fin ys (ts ++ news)) : LCg.CompRest prog w A h₀ L m env elt x scope cl s S (fun i v => vs.toArray[i]? = some v) Fin vs.toArray.size 0 [] news := by
  have hl : vs.toArray.size = ns.length := by rw [List.size_toArray]; exact hi.length
  rw [hl]
  exact comp_tup f g rfl (fun i v _ hv => by
    obtain ⟨k, t, e, hk⟩ := IntsAre.at hi i v (by simpa using hv)
    exact ⟨k, t, hk, e⟩) turn fin
end
theorem news_ins {h₀ h : Heap} {L : Addr} {a b c p q : Addr × Obj} {nw : List (Addr × Obj)} (N : News h₀ L h (a :: b :: c :: nw)) (hq : q ∈ nw) (hp : p ∈ nw) : News h₀ L h (a :: b :: c :: q :: p :: nw) := by
  intro z hz
  apply N z
  simp only [List.mem_cons] at hz ⊢
  rcases hz with h | h | h | h | h | h
  · exact .inl h
  · exact .inr (.inl h)
  · exact .inr (.inr (.inl h))
  · subst h; exact .inr (.inr (.inr hq))
  · subst h; exact .inr (.inr (.inr hp))
  · exact .inr (.inr (.inr h))
theorem comp_end9 {h₀ h' : Heap} {L I C D D8 ax : Addr} {m : Str → Option Value} {s₁ : Shared} {oI oC oD : Obj} {its : Array Value} {c tk : Nat} {d f : Int} {t u : Tok} {p q : Addr × Obj} {nw : List (Addr × Obj)}
    (F : Fr h₀ L h' m) (N : News h₀ L h' ((D8, ({ cls := .type "tuple", data := .seq #[.int d t, .int f u] } : Obj)) :: (I, oI) :: (C, oC) :: (D, oD) :: q :: p :: nw)) (l : AllLt D8 ((I, oI) :: (C, oC) :: (D, oD) :: q :: p :: nw)) (off : LCg.Off3 I C D nw) (hS : (ax, W.listOf its c) ∈ nw) :
    LCg.CompEnd h₀ L m s₁ I oI C oC D oD (LCg.SrcAt h₀ ax its) (fun y news' => ∃ D9 t1 t2, y = .ref D9 ∧ news' = (D9, tup9 d t1 f t2) :: nw) (.ref D8) { s₁ with heap := h', toks := tk } := by
  refine LCg.CompEnd.intro F N ((D8, tup9 d t f u) :: nw) ?_ ?_ ?_ ⟨D8, t, u, rfl, rfl⟩
  · intro z hz
    simp only [List.mem_cons] at hz ⊢
    rcases hz with h | h | h | h | h
    · exact .inr (.inl h)
    · exact .inr (.inr (.inl h))
    · exact .inr (.inr (.inr (.inl h)))
    · exact .inl h
    · exact .inr (.inr (.inr (.inr (.inr (.inr h)))))
  · exact ⟨⟨Nat.ne_of_gt l.1, Nat.ne_of_gt l.2.1, Nat.ne_of_gt l.2.2.1⟩, off⟩
  · exact .inr ⟨_, List.mem_cons_of_mem _ hS, rfl, c, rfl⟩
theorem news_pts {h₀ h : Heap} {L : Addr} {a x p q : Addr × Obj} {ts news : List (Addr × Obj)} (N : News h₀ L h (a :: (ts ++ news))) (hx : x ∈ news) (hq : q ∈ news) (hp : p ∈ news) : News h₀ L h (a :: x :: q :: p :: ts) := by
  intro z hz
  apply N z
  simp only [List.mem_cons, List.mem_append] at hz ⊢
  rcases hz with h | h | h | h | h
  · exact .inl h
  · subst h; exact .inr (.inr hx)
  · subst h; exact .inr (.inr hq)
  · subst h; exact .inr (.inr hp)
  · exact .inr (.inl h)
section
variable {prog : Program} {w : World} {A : Around} {E : Value → Shared → Prop} {s : Shared} {env : Env} {h₀ : Heap} {x : Str} {body : List Stmt} {Q : Flow → Shared → Prop}
/-- a loop that keeps the elder ledger as it is, over any walk -/
theorem loop9 {I : Addr} {fp : List Addr} {n : Nat} {P : Nat → Value → Prop} {St : Nat → Heap → Prop} {m₀ : Str → Option Value} {news : List (Addr × Obj)} (stored : List Str)
    (W : Walks prog w A I fp [I] n P St) (hL : env.locals ∉ fp) (hI : h₀.get? I = none) (hnew : ∀ p ∈ news, p.1 ≠ I) (hst : St 0 s.heap) (F : Fr h₀ env.locals s.heap m₀) (N : News h₀ env.locals s.heap news)
    (turn : ∀ i v (u : Str → Option Value) h tk nw, i < n → P i v → (∀ p ∈ news, p ∈ nw) → Fr h₀ env.locals h (fun z => if z = x then some v else if stored.contains z then u z else m₀ z) → News h₀ env.locals h nw →
      wpAny (model prog w) A (execs body env) (InvPost h₀ env.locals (fun m' => ∀ z, z ≠ x → stored.contains z = false → m' z = m₀ z) nw { s with heap := h, toks := tk } Q) E { s with heap := h, toks := tk })
    (done : ∀ (u : Str → Option Value) h tk, Fr h₀ env.locals h (fun z => if z = x then u z else if stored.contains z then u z else m₀ z) → News h₀ env.locals h news → Q .next { s with heap := h, toks := tk }) :
    LoopAtV prog w A h₀ env x body Q E (.ref I) s := by
  let J : Nat → (Str → Option Value) → List (Addr × Obj) → Prop := fun _ m₁ news₁ => news₁ = news ∧ ∀ z, z ≠ x → stored.contains z = false → m₁ z = m₀ z
  have same : ∀ m₁ : Str → Option Value, (∀ z, z ≠ x → stored.contains z = false → m₁ z = m₀ z) → (fun z => if z = x then m₁ z else if stored.contains z then m₁ z else m₀ z) = m₁ := by
    intro m₁ hm
    funext z
    by_cases h1 : z = x
    · rw [if_pos h1]
    · rw [if_neg h1]
      cases h2 : stored.contains z with
      | true => exact if_pos rfl
      | false => rw [if_neg Bool.false_ne_true, hm z h1 h2]
  refine ⟨I, fp, [I], n, P, St, m₀, news, J, rfl, W, hL, ?_, ?_, hst, F, N, ⟨rfl, fun _ _ _ => rfl⟩, ?_, ?_⟩
  · intro b hb
    rw [List.mem_singleton.mp hb]; exact hI
  · intro p hp hq
    exact hnew p hp (List.mem_singleton.mp hq)
  · rintro i v m₁ news₁ s₁ own ⟨hh', tk', rfl⟩ hin hP ⟨rfl, hm⟩ hoff hown _ _ _ F₁ N₁
    have e : (fun y => if y = x then some v else m₁ y) = fun z => if z = x then some v else if stored.contains z then m₁ z else m₀ z := by
      funext z
      by_cases h1 : z = x
      · rw [if_pos h1, if_pos h1]
      · rw [if_neg h1, if_neg h1]
        cases h2 : stored.contains z with
        | true => exact (if_pos rfl).symm
        | false => rw [if_neg Bool.false_ne_true, hm z h1 h2]
    rw [e] at F₁
    refine wpAny_mono (turn i v m₁ hh' tk' (own ++ news₁) hin hP (fun p hp => List.mem_append_right _ hp) F₁ N₁) (fun f s₂ p => ?_) fun _ _ e => e
    have fin : InvEnd h₀ env.locals (fun m' => ∀ z, z ≠ x → stored.contains z = false → m' z = m₀ z) (own ++ news₁) { s with heap := hh', toks := tk' } s₂ → LoopStepU h₀ env.locals [I] own (J (i + 1)) { s with heap := hh', toks := tk' } .next s₂ := by
      rintro ⟨h', tk, m', news', e, F', N', hn, hm'⟩
      exact ⟨rfl, h', tk, m', news₁, e, F', fun p hp => N' p (hn p hp), hoff, rfl, hm'⟩
    cases f with
    | ret v => exact .ret p
    | brk => exact .brk p
    | next => exact .next (fin p)
    | cont => exact .cont (fin p)
  · rintro h' tk m' news' F' N' _ ⟨rfl, hm⟩
    refine done m' h' tk ?_ N'
    rw [same m' hm]; exact F'
/-- over a list of the ledger -/
theorem iter_refs9 {l : Addr} {ys : List Value} {m₀ : Str → Option Value} {news : List (Addr × Obj)} (stored : List Str)
    (hh : A.handled = none) (F : Fr h₀ env.locals s.heap m₀) (N : News h₀ env.locals s.heap news) (hl : ∃ c, (l, listOf ys.toArray c) ∈ news)
    (turn : ∀ (i : Nat) v (u : Str → Option Value) h tk nw, ys[i]? = some v → (∀ p ∈ news, p ∈ nw) → Fr h₀ env.locals h (fun z => if z = x then some v else if stored.contains z then u z else m₀ z) → News h₀ env.locals h nw →
      wpAny (model prog w) A (execs body env) (InvPost h₀ env.locals (fun m' => ∀ z, z ≠ x → stored.contains z = false → m' z = m₀ z) nw { s with heap := h, toks := tk } Q) E { s with heap := h, toks := tk })
    (done : ∀ (u : Str → Option Value) h tk, Fr h₀ env.locals h (fun z => if z = x then u z else if stored.contains z then u z else m₀ z) → News h₀ env.locals h news → Q .next { s with heap := h, toks := tk }) :
    wpAny (model prog w) A (pyIter (.ref l)) (fun it s₂ => LoopAtV prog w A h₀ env x body Q E it s₂) E s := by
  obtain ⟨c, hl⟩ := hl
  have hls : s.heap.IsList l ys.toArray := ⟨_, (N _ hl).1, rfl, c, rfl⟩
  have hlt := Heap.lt_size (N _ hl).1
  have hne : l ≠ s.heap.objs.size := Nat.ne_of_lt hlt
  refine wpAny_pyIter_list hls ?_
  refine loop9 (n := ys.toArray.size) (m₀ := m₀) (news := news) stored (Walks.list hh s.heap.objs.size l hne ys.toArray) ?_ (next_is_new F) ?_ ⟨⟨_, Heap.get?_push_size _ rfl, rfl, rfl⟩, hls.at fun o e => Heap.get?_push_of_some _ e⟩ (F.push _) (fun p hp => ⟨Heap.get?_push_of_some _ (N p hp).1, (N p hp).2⟩) ?_ ?_
  · intro hm
    rcases List.mem_cons.mp hm with e | hm
    · exact absurd F.ns.lt (e ▸ Nat.lt_irrefl _)
    · exact (N _ hl).2.1 (List.mem_singleton.mp hm).symm
  · intro p hp e
    exact absurd (Heap.lt_size (N p hp).1) (e ▸ Nat.lt_irrefl _)
  · intro i v u h tk nw _ hv hs F' N'
    exact turn i v u h tk nw (by simpa using hv) hs F' N'
  · exact done
/-- over a range -/
theorem iter_range9 {r : Addr} {a b : Int} {t₀ u₀ v₀ : Tok} {n : Nat} {m₀ : Str → Option Value} {news : List (Addr × Obj)} (stored : List Str)
    (hh : A.handled = none) (hr : IsRange s.heap r a b 1 t₀ u₀ v₀) (hsmall : Builtin.Range.small a b 1 = true) (hn : Builtin.Range.rangeSize a b 1 = (n : Int)) (F : Fr h₀ env.locals s.heap m₀) (N : News h₀ env.locals s.heap news)
    (turn : ∀ (i : Nat) k t (u : Str → Option Value) h tk nw, i < n → k = a + (i : Int) → (∀ p ∈ news, p ∈ nw) → Fr h₀ env.locals h (fun z => if z = x then some (.int k t) else if stored.contains z then u z else m₀ z) → News h₀ env.locals h nw →
      wpAny (model prog w) A (execs body env) (InvPost h₀ env.locals (fun m' => ∀ z, z ≠ x → stored.contains z = false → m' z = m₀ z) nw { s with heap := h, toks := tk } Q) E { s with heap := h, toks := tk })
    (done : ∀ (u : Str → Option Value) h tk, Fr h₀ env.locals h (fun z => if z = x then u z else if stored.contains z then u z else m₀ z) → News h₀ env.locals h news → Q .next { s with heap := h, toks := tk }) :
    wpAny (model prog w) A (pyIter (.ref r)) (fun it s₂ => LoopAtV prog w A h₀ env x body Q E it s₂) E s := by
  refine wpAny_pyIter_range hr hsmall ?_
  refine loop9 (n := n) (m₀ := m₀) (news := news) stored (Walks.range hh s.heap.objs.size a 1 n) ?_ (next_is_new F) ?_ (by show IsRangeIter _ _ _ _ _; rw [hn]; simpa using Heap.get?_push_size _ rfl) (F.push _) (fun p hp => ⟨Heap.get?_push_of_some _ (N p hp).1, (N p hp).2⟩) ?_ done
  · intro hm
    exact absurd F.ns.lt ((List.mem_singleton.mp hm) ▸ Nat.lt_irrefl _)
  · intro p hp e
    exact absurd (Heap.lt_size (N p hp).1) (e ▸ Nat.lt_irrefl _)
  · rintro i v u h tk nw hi ⟨t, rfl⟩ hs F' N'
    exact turn i _ t u h tk nw hi (by rw [Int.mul_one]) hs F' N'
/-- over a tuple of the ledger -/
theorem iter_tup9 {l : Addr} {ys : List Value} {m₀ : Str → Option Value} {news : List (Addr × Obj)} (stored : List Str)
    (hh : A.handled = none) (F : Fr h₀ env.locals s.heap m₀) (N : News h₀ env.locals s.heap news) (hl : (l, ({ cls := .type "tuple", data := .seq ys.toArray } : Obj)) ∈ news)
    (turn : ∀ (i : Nat) v (u : Str → Option Value) h tk nw, ys[i]? = some v → (∀ p ∈ news, p ∈ nw) → Fr h₀ env.locals h (fun z => if z = x then some v else if stored.contains z then u z else m₀ z) → News h₀ env.locals h nw →
      wpAny (model prog w) A (execs body env) (InvPost h₀ env.locals (fun m' => ∀ z, z ≠ x → stored.contains z = false → m' z = m₀ z) nw { s with heap := h, toks := tk } Q) E { s with heap := h, toks := tk })
    (done : ∀ (u : Str → Option Value) h tk, Fr h₀ env.locals h (fun z => if z = x then u z else if stored.contains z then u z else m₀ z) → News h₀ env.locals h news → Q .next { s with heap := h, toks := tk }) :
    wpAny (model prog w) A (pyIter (.ref l)) (fun it s₂ => LoopAtV prog w A h₀ env x body Q E it s₂) E s := by
  have hls : s.heap.IsTuple l ys.toArray := ⟨_, (N _ hl).1, rfl, _, rfl⟩
  have hlt := Heap.lt_size (N _ hl).1
  have hne : l ≠ s.heap.objs.size := Nat.ne_of_lt hlt
  refine wpAny_pyIter_tuple hls ?_
  refine loop9 (n := ys.toArray.size) (m₀ := m₀) (news := news) stored (Walks.tuple hh s.heap.objs.size l hne ys.toArray) ?_ (next_is_new F) ?_ ⟨⟨_, Heap.get?_push_size _ rfl, rfl, rfl⟩, hls.at fun o e => Heap.get?_push_of_some _ e⟩ (F.push _) (fun p hp => ⟨Heap.get?_push_of_some _ (N p hp).1, (N p hp).2⟩) ?_ ?_
  · intro hm
    rcases List.mem_cons.mp hm with e | hm
    · exact absurd F.ns.lt (e ▸ Nat.lt_irrefl _)
    · exact (N _ hl).2.1 (List.mem_singleton.mp hm).symm
  · intro p hp e
    exact absurd (Heap.lt_size (N p hp).1) (e ▸ Nat.lt_irrefl _)
  · intro i v u h tk nw _ hv hs F' N'
    exact turn i v u h tk nw (by simpa using hv) hs F' N'
  · exact done
end
theorem told_at {f g : Int → Int} {ks : List Int} {ys : List Value} {ts : List (Addr × Obj)} {i : Nat} {v : Value} (hT : Told9 f g ks ks.length ys ts) (hv : ys[i]? = some v) : ∃ k D t u, ks[i]? = some k ∧ v = .ref D ∧ (D, tup9 (f k) t (g k) u) ∈ ts := by
  have hi : i < ks.length := by
    rw [← hT.len]
    exact (List.getElem?_eq_some_iff.mp hv).1
  obtain ⟨D, t, u, e, hm⟩ := hT.at' i ks[i] hi (List.getElem?_eq_getElem hi)
  exact ⟨ks[i], D, t, u, List.getElem?_eq_getElem hi, Option.some.inj (hv.symm.trans e), hm⟩
theorem news_c3 {h₀ h : Heap} {L : Addr} {a p q : Addr × Obj} {nw : List (Addr × Obj)} (N : News h₀ L h nw) (ha : a ∈ nw) (hq : q ∈ nw) (hp : p ∈ nw) : News h₀ L h (a :: q :: p :: nw) := by
  intro z hz
  simp only [List.mem_cons] at hz
  rcases hz with h | h | h | h
  · exact h ▸ N _ ha
  · exact h ▸ N _ hq
  · exact h ▸ N _ hp
  · exact N _ h
theorem two_at {d f : Int} {t u : Tok} {i : Nat} {v : Value} (h : [Value.int d t, Value.int f u][i]? = some v) : ∃ n w, v = .int n w := by
  rcases i with _ | _ | i
  · exact ⟨d, t, (Option.some.inj h).symm⟩
  · exact ⟨f, u, (Option.some.inj h).symm⟩
  · cases h
theorem ne_of_contains {st : List Str} {z y : Str} (h : st.contains z = false) (hy : st.contains y = true) : z ≠ y := by
  intro e
  rw [e, hy] at h
  cases h
/-- the facts that the told row is read with -/
structure G9 (p x q t Q0 : Int) (row : List Int) : Prop where
  p1 : 1 ≤ p
  p2 : p ≤ 30
  x1 : 0 ≤ x
  x2 : x ≤ 4
  hq : p + 2 + x = q
  ht : l10 q = t
  srt : List.Pairwise (fun a b : Int => a ≤ b) row
  len : row.length ≤ 18
  r9 : Row9 q x t Q0 row
theorem Row9.perm {q x t Q0 : Int} {r1 r2 : List Int} (R : Row9 q x t Q0 r1) (h : r2.Perm r1) : Row9 q x t Q0 r2 :=
  ⟨h.mem_iff.mpr R.one, h.mem_iff.mpr R.two, fun z hz => R.lo z (h.mem_iff.mp hz), fun z hz => (R.hi z (h.mem_iff.mp hz)).imp id (fun ⟨⟨c, hc, e⟩, k⟩ => ⟨⟨c, h.mem_iff.mpr hc, e⟩, k⟩), fun z hz => R.dx z (h.mem_iff.mp hz)⟩
/-- the law from the first loop over the told pairs on -/
def Tail9b (M : Model) (A : Around) (t : Sem Flow) (E : Value → Shared → Prop) (h₀ : Heap) (L : Addr) : Prop :=
  ∀ (p x q t1 Q0 : Int) (tp tx tq tt : Tok) (oP oQ : Obj) (m : Str → Option Value) (s : Shared) (Q : Flow → Shared → Prop) (row : List Int) (vs ys : List Value) (c : Nat) (ts : List (Addr × Obj)) (D l : Addr),
    G9 p x q t1 Q0 row → IntsAre vs row → Told9 (fun c => dexpD c (-q) p) (fun c => dexpE c (-q) p) row row.length ys ts → Fr h₀ L s.heap m →
    News h₀ L s.heap ((D, LCg.lst ys) :: (l, W.listOf vs.toArray c) :: (L + 1 + 1, oQ) :: (L + 1, oP) :: ts) → oP.data = .cell (some (.int p tp)) → oQ.data = .cell (some (.int q tq)) →
    m (Str.ofString "x") = some (.int x tx) → m (Str.ofString "t") = some (.int t1 tt) → m (Str.ofString "points") = some (.ref l) → m (Str.ofString "told") = some (.ref D) →
    (∀ (m' : Str → Option Value) (h' : Heap) (tk' : Nat), Fr h₀ L h' m' → Q (.ret (.bool true)) { s with heap := h', toks := tk' }) →
    wpAny M A t Q E s
theorem cut9b {M : Model} {A : Around} {env : Env} {stmts : List Stmt} {Q : Flow → Shared → Prop} {E : Value → Shared → Prop} {s : Shared} {h₀ : Heap} {L : Addr} {m : Str → Option Value} (_ : Fr h₀ L s.heap m)
    (C1 : Tail9b M A (execs (stmts.drop 11) env) E h₀ L) (h : Tail9b M A (execs (stmts.drop 11) env) E h₀ L → wpAny M A (execs stmts env) Q E s) : wpAny M A (execs stmts env) Q E s := h C1
theorem tail9b_use {M : Model} {A : Around} {t : Sem Flow} {E : Value → Shared → Prop} {h₀ : Heap} {L : Addr} {p x q t1 Q0 : Int} {tp tx tq tt : Tok} {oP oQ : Obj} {m : Str → Option Value} {s : Shared} {Q : Flow → Shared → Prop} {row : List Int} {vs ys : List Value} {c : Nat} {ts : List (Addr × Obj)} {D l : Addr}
    (C : Tail9b M A t E h₀ L) (G : G9 p x q t1 Q0 row) (hI : IntsAre vs row) (hT : Told9 (fun c => dexpD c (-q) p) (fun c => dexpE c (-q) p) row row.length ys ts) (F : Fr h₀ L s.heap m)
    (N : News h₀ L s.heap ((D, LCg.lst ys) :: (l, W.listOf vs.toArray c) :: (L + 1 + 1, oQ) :: (L + 1, oP) :: ts)) (hoP : oP.data = .cell (some (.int p tp))) (hoQ : oQ.data = .cell (some (.int q tq)))
    (e1 : m (Str.ofString "x") = some (.int x tx)) (e2 : m (Str.ofString "t") = some (.int t1 tt)) (e3 : m (Str.ofString "points") = some (.ref l)) (e4 : m (Str.ofString "told") = some (.ref D))
    (k : ∀ (m' : Str → Option Value) (h' : Heap) (tk' : Nat), Fr h₀ L h' m' → Q (.ret (.bool true)) { s with heap := h', toks := tk' }) : wpAny M A t Q E s :=
  C p x q t1 Q0 tp tx tq tt oP oQ m s Q row vs ys c ts D l G hI hT F N hoP hoQ e1 e2 e3 e4 k
/-- what is told of two neighbours -/
structure Pr9 (p x q t a b da fa db fb : Int) : Prop where
  ab : intBits a ≤ 300
  bb : intBits b ≤ 300
  da1 : intBits da ≤ 200
  db1 : intBits db ≤ 200
  j0 : 0 ≤ fb - fa
  j1 : fb - fa ≤ 1
  s1 : ¬ (100 * (10 ^ (fb - fa).toNat * db - da) + 62 * (10 ^ (fb - fa).toNat + 1)) * 10 ^ q.toNat ≤ (100 * da - 62) * (b - a)
  s2 : ¬ (100 * (10 ^ (fb - fa).toNat * db - da) - 62 * (10 ^ (fb - fa).toNat + 1)) * 10 ^ q.toNat ≥ 10 ^ (fb - fa).toNat * (100 * db + 62) * (b - a)
  ord : fb - fa = 0 → stp (10 ^ q.toNat) (a % t - 10 ^ x.toNat) = stp (10 ^ q.toNat) (b % t + 10 ^ x.toNat) → ¬ da > db
theorem d_bits9 {p d : Int} (hp : 1 ≤ p) (hp2 : p ≤ 30) (h1 : 10 ^ (p - 1).toNat ≤ d) (h2 : d ≤ 10 ^ p.toNat) : intBits d ≤ 200 := by
  have := ten_pos (p - 1).toNat
  exact bits_abs (b := 10 ^ p.toNat) (by omega) h2 (ten_bits46 (by omega))
theorem pair9 {p x q t1 Q0 : Int} {row : List Int} {vs ys : List Value} {ts : List (Addr × Obj)} (hp1 : 1 ≤ p) (hp2 : p ≤ 30) (hx1 : 0 ≤ x) (hx2 : x ≤ 4) (hq : p + 2 + x = q) (ht : l10 q = t1)
    (hR : Row9 q x t1 Q0 row) (hst : List.Pairwise (fun a b : Int => a ≤ b) row) (hI : IntsAre vs row) (hT : Told9 (fun c => dexpD c (-q) p) (fun c => dexpE c (-q) p) row row.length ys ts) {k : Int} {i : Nat} (hk : k = 1 + (i : Int)) (hi : i < ((row.length : Int) - 1).toNat) :
    ∃ a b ta tb D1 D2 da fa db fb t1' u1 t2 u2, vs[(k - 1).toNat]? = some (.int a ta) ∧ vs[k.toNat]? = some (.int b tb) ∧ ys[(k - 1).toNat]? = some (.ref D1) ∧ ys[k.toNat]? = some (.ref D2) ∧ (D1, tup9 da t1' fa u1) ∈ ts ∧ (D2, tup9 db t2 fb u2) ∈ ts ∧ Pr9 p x q t1 a b da fa db fb := by
  subst hq ht
  have e1 : (k - 1).toNat = i := by omega
  have e2 : k.toNat = i + 1 := by omega
  rw [e1, e2]
  have h1 : i < row.length := by omega
  have h2 : i + 1 < row.length := by omega
  obtain ⟨ta, ha⟩ := hI.get i row[i] (List.getElem?_eq_getElem h1)
  obtain ⟨tb, hb⟩ := hI.get (i + 1) row[i + 1] (List.getElem?_eq_getElem h2)
  obtain ⟨D1, t1', u1, y1, m1⟩ := hT.at' i row[i] h1 (List.getElem?_eq_getElem h1)
  obtain ⟨D2, t2, u2, y2, m2⟩ := hT.at' (i + 1) row[i + 1] h2 (List.getElem?_eq_getElem h2)
  have ma : row[i] ∈ row := List.getElem_mem h1
  have mb : row[i + 1] ∈ row := List.getElem_mem h2
  have hle := List.pairwise_iff_getElem.mp hst
  have S := step9 (a := row[i]) (b := row[i + 1]) hp1 hp2 hx1 hx2 hR ma mb (hle i (i + 1) h1 h2 (by omega)) (fun z hz => by
    obtain ⟨j, hj, rfl⟩ := List.getElem_of_mem hz
    rcases Nat.lt_trichotomy j i with h | h | h
    · exact .inl (hle j i hj h1 h)
    · subst h; exact .inl (Int.le_refl _)
    · rcases Nat.lt_or_ge (i + 1) j with h' | h'
      · exact .inr (hle (i + 1) j h2 hj h')
      · have : j = i + 1 := by omega
        subst this; exact .inr (Int.le_refl _))
  obtain ⟨-, a1, a2, -⟩ := pt9 hp1 hp2 hx1 hx2 (hR.dx _ ma)
  obtain ⟨-, b1, b2, -⟩ := pt9 hp1 hp2 hx1 hx2 (hR.dx _ mb)
  exact ⟨_, _, ta, tb, D1, D2, _, _, _, _, t1', u1, t2, u2, ha, hb, y1, y2, m1, m2,
    ⟨bits_dx (by omega) (by omega) hx1 hx2 (hR.dx _ ma), bits_dx (by omega) (by omega) hx1 hx2 (hR.dx _ mb), d_bits9 hp1 hp2 a1 a2, d_bits9 hp1 hp2 b1 b2, S.j0, S.j1, S.s1, S.s2, S.ord⟩⟩
theorem news_c6 {h₀ h : Heap} {L D l : Addr} {a b p q : Addr × Obj} {ys : List Value} {o : Obj} {ts nw : List (Addr × Obj)} (N : News h₀ L h nw) (sub : ∀ z ∈ (D, LCg.lst ys) :: (l, o) :: q :: p :: ts, z ∈ nw) (ha : a ∈ ts) (hb : b ∈ ts) :
    News h₀ L h ((D, W.listOf ys.toArray ys.length) :: (l, o) :: a :: b :: q :: p :: nw) := by
  intro z hz
  simp only [List.mem_cons] at hz
  rcases hz with h | h | h | h | h | h | h
  · exact N _ (sub _ (by rw [h]; exact List.mem_cons_self))
  · exact N _ (sub _ (by rw [h]; exact List.mem_cons_of_mem _ List.mem_cons_self))
  · exact N _ (sub _ (by rw [h]; exact List.mem_cons_of_mem _ (List.mem_cons_of_mem _ (List.mem_cons_of_mem _ (List.mem_cons_of_mem _ ha)))))
  · exact N _ (sub _ (by rw [h]; exact List.mem_cons_of_mem _ (List.mem_cons_of_mem _ (List.mem_cons_of_mem _ (List.mem_cons_of_mem _ hb)))))
  · exact N _ (sub _ (by rw [h]; exact List.mem_cons_of_mem _ (List.mem_cons_of_mem _ List.mem_cons_self)))
  · exact N _ (sub _ (by rw [h]; exact List.mem_cons_of_mem _ (List.mem_cons_of_mem _ (List.mem_cons_of_mem _ List.mem_cons_self))))
  · exact N _ h
section
variable {prog : Program} {w : World} {A : Around} {E : Value → Shared → Prop} {s : Shared} {h₀ : Heap} {L : Addr} {news : List (Addr × Obj)}
theorem item_at9 {value slice : PySem.Expr} {l : Addr} {vs : List Value} {c : Nat} {k : Int} {u : Tok} {v : Value} {Q : Value → Shared → Prop} (N : News h₀ L s.heap news) (hm : (l, W.listOf vs.toArray c) ∈ news) (hx : vs[k.toNat]? = some v)
    (h0 : 0 ≤ k) (hfit : k < 2 ^ 63) (h : Q v s)
    (hs : subscripted slice false (.ref l) (.int k u) = operate [.ref l, .int k u] (getItem (.ref l) (.int k u)) := by with_unfolding_all rfl) :
    wpAny (model prog w) A (subscriptTail value slice (.ref l) (.int k u)) Q E s := by
  have hl : s.heap.IsList l vs.toArray := ⟨_, (N _ hm).1, rfl, c, rfl⟩
  exact tail_any hl.typeIs slot_list_getitem.lookup (getItem_listL hl h0 hfit hx h) hs
end
/-- marks a divisor of which the remainder is kept as it is -/
structure Keep9 (t : Int) : Prop where
  pos : 0 < t
section
variable {prog : Program} {w : World} {A : Around} {E : Value → Shared → Prop} {s : Shared}
theorem mod_keep9 {a b : Int} {t u : Tok} {Q : Value → Shared → Prop} (hb : Keep9 b) (h : Q (.int (a % b) s.toks) { s with toks := s.toks + 1 }) : wpAny (model prog w) A (binaryOp .Mod (.int a t) (.int b u)) Q E s :=
  mod_int' (by have := hb.pos; omega) (by rw [Int.fmod_eq_emod_of_nonneg _ (Int.le_of_lt hb.pos)]; exact h)
theorem ge_not9 {a b : Int} {t u : Tok} {Q : Value → Shared → Prop} (hab : ¬ a ≥ b) (h : Q (.bool false) s) : wpAny (model prog w) A (compareOp .GtE (.int a t) (.int b u)) Q E s := ge_int (by
  have e : decide (a ≥ b) = false := decide_eq_false hab
  first | (rw [e]; exact h) | (simp only [ge_iff_le] at e ⊢; rw [e]; exact h))
theorem le_not9 {a b : Int} {t u : Tok} {Q : Value → Shared → Prop} (hab : ¬ a ≤ b) (h : Q (.bool false) s) : wpAny (model prog w) A (compareOp .LtE (.int a t) (.int b u)) Q E s := le_int (by
  have e : decide (a ≤ b) = false := decide_eq_false hab
  rw [e]; exact h)
theorem gt_not9 {a b : Int} {t u : Tok} {Q : Value → Shared → Prop} (hab : ¬ a > b) (h : Q (.bool false) s) : wpAny (model prog w) A (compareOp .Gt (.int a t) (.int b u)) Q E s := gt_int (by
  have e : decide (a > b) = false := decide_eq_false hab
  rw [e]; exact h)
end
/-- the sizes of all the numbers of a turn -/
structure Bits9 (a b t x da db S T X : Int) : Prop where
  c100 : intBits 100 ≤ 64
  c62 : intBits 62 ≤ 64
  fs : intBits S ≤ 200
  ft : intBits T ≤ 200
  fu : intBits db ≤ 200
  fv : intBits da ≤ 200
  m1 : intBits (S * db - da) ≤ 500
  m2 : intBits (S + 1) ≤ 300
  m3 : intBits (100 * (S * db - da) + 62 * (S + 1)) ≤ 700
  m4 : intBits (100 * (S * db - da) - 62 * (S + 1)) ≤ 700
  m5 : intBits (100 * da - 62) ≤ 400
  m6 : intBits (b - a) ≤ 400
  m7 : intBits (100 * db + 62) ≤ 400
  m8 : intBits (S * (100 * db + 62)) ≤ 700
  y1 : intBits (a % t - X) ≤ 1000
  y2 : intBits (b % t + X) ≤ 1000
theorem emod_bits9 {a t : Int} {k : Nat} (h0 : 0 < t) (h : intBits t ≤ k) : intBits (a % t) ≤ k := by
  have := Int.emod_nonneg a (show t ≠ 0 by omega)
  have := Int.emod_lt_of_pos a h0
  exact bits_abs (b := t) (by omega) (by omega) h
theorem bits9 {a b t x da db S T X : Int} (ha : intBits a ≤ 300) (hb : intBits b ≤ 300) (ht0 : 0 < t) (ht : intBits t ≤ 160) (hda : intBits da ≤ 200) (hdb : intBits db ≤ 200) (hS : intBits S ≤ 200) (hT : intBits T ≤ 200) (hX : intBits X ≤ 200) : Bits9 a b t x da db S T X := by
  have c100 : intBits 100 ≤ 64 := PySem.intBits_le_64 (by decide) (by decide)
  have c62 : intBits 62 ≤ 64 := PySem.intBits_le_64 (by decide) (by decide)
  have c1 : intBits 1 ≤ 64 := PySem.intBits_le_64 (by decide) (by decide)
  have m1 := intBits_sub_le (intBits_mul_le hS hdb) hda
  have m2 := intBits_add_le hS c1
  have n1 := intBits_mul_le c100 m1
  have n2 := intBits_mul_le c62 m2
  have m7 := intBits_add_le (intBits_mul_le c100 hdb) c62
  exact ⟨c100, c62, hS, hT, hdb, hda, bits_mono m1, bits_mono m2, bits_mono (intBits_add_le n1 n2), bits_mono (intBits_sub_le n1 n2), bits_mono (intBits_sub_le (intBits_mul_le c100 hda) c62), bits_mono (intBits_sub_le hb ha), bits_mono m7, bits_mono (intBits_mul_le hS m7), bits_mono (intBits_sub_le (emod_bits9 ht0 ht) hX), bits_mono (intBits_add_le (emod_bits9 ht0 ht) hX)⟩
section
variable {prog : Program} {w : World} {A : Around} {E : Value → Shared → Prop} {s : Shared}
theorem eq_yes9 {a b : Int} {t u : Tok} {Q : Value → Shared → Prop} (hab : a = b) (h : Q (.bool true) s) : wpAny (model prog w) A (compareOp .Eq (.int a t) (.int b u)) Q E s := eq_int (by
  have e : (a == b) = true := by simpa using hab
  rw [e]; exact h)
theorem eq_no9 {a b : Int} {t u : Tok} {Q : Value → Shared → Prop} (hab : ¬ a = b) (h : Q (.bool false) s) : wpAny (model prog w) A (compareOp .Eq (.int a t) (.int b u)) Q E s := eq_int (by
  have e : (a == b) = false := by simpa using hab
  rw [e]; exact h)
end
end
end Mine
local macro_rules | `(tactic| walk_at "storeName") => `(tactic| (k_here; (with_reducible show wpAny _ _ (storeName _ (PySem.Str.ofString "p") (Value.int _ _)) _ _ _); refine Mine.Stop.out ?_))
local macro_rules | `(tactic| walk_at "storeName") => `(tactic| (k_here; (with_reducible show wpAny _ _ (storeName _ (PySem.Str.ofString "x") (Value.int _ _)) _ _ _); refine Mine.Stop.out ?_))
local macro_rules | `(tactic| walk_at "storeName") => `(tactic| (k_here; (with_reducible show wpAny _ _ (storeName _ (PySem.Str.ofString "q") (Value.int _ _)) _ _ _); refine Mine.Stop.out ?_))
local macro_rules | `(tactic| walk_at "storeName") => `(tactic| (k_here; (with_reducible show wpAny _ _ (storeName _ (PySem.Str.ofString "t") (Value.int _ _)) _ _ _); refine Mine.Stop.out ?_))
local macro_rules | `(tactic| walk_at "storeName") => `(tactic| (k_here; (with_reducible show wpAny _ _ (storeName _ (PySem.Str.ofString "c") (Value.int _ _)) _ _ _); refine Mine.Stop.out ?_))
local macro_rules | `(tactic| walk_at "storeName") => `(tactic| (k_here; (with_reducible show wpAny _ _ (storeName _ (PySem.Str.ofString "least") (Value.int (_ + _ / _) _)) _ _ _); refine Mine.Stop.out ?_))
local macro_rules | `(tactic| walk_at "callWith ref") => `(tactic| (k_here; (with_reducible show wpAny _ _ (callWith _ (Value.ref _) _ _ _) _ _ _); (refine' Mine.callWith_KM ?k1 ?k2 ?k3 ?_); (case k1 => k_asm); (case k2 => exact rfl); (case k3 => k_is); k_whole))
local macro_rules | `(tactic| walk_at "execs cons") => `(tactic| (k_here; (with_reducible refine Mine.gen_toks (P := fun k => wpAny _ _ (execs (_ :: _) _) _ _ { heap := _, gens := _, drawn := _, toks := k, os := _ }) _ ?_); intro tk; (with_reducible refine wpAny_execs_cons ?_); try dsimp only))
local macro_rules | `(tactic| walk_at "execs nil") => `(tactic| (k_here; (with_reducible refine Mine.gen_toks (P := fun k => wpAny _ _ (execs [] _) _ _ { heap := _, gens := _, drawn := _, toks := k, os := _ }) _ ?_); intro tk; (with_reducible refine wpAny_execs_nil ?_); try dsimp only))
local macro_rules | `(tactic| walk_at "execs cons") => `(tactic| (k_here; (with_reducible show wpAny _ _ (execs (PySem.Stmt.Assign [PySem.Expr.Name (PySem.Str.ofString "points") _] _ _ :: _) _) _ _ _); refine Mine.Stop.out ?_))
local macro_rules | `(tactic| walk_at "exec For Name BinOp cons nil") => `(tactic| (k_here; (rename Fr _ _ _ _ => lF9); (with_unfolding_all refine' For_invVF lF9 ?kz1 ?kz2 ?_; (case kz1 => exact rfl); (case kz2 => exact rfl); k_whole)))
local macro_rules | `(tactic| walk_at "subscriptTail") => `(tactic| (k_here; (with_reducible show wpAny _ _ (subscriptTail _ _ (Value.ref _) (Value.int _ _)) _ _ _); (with_unfolding_all refine' Mine.item_at9 ?kn1 ?kn2 ?kn3 ?kn4 ?kn5 ?_ ?kn6; (case kn1 => assumption); (case kn2 => k_mem); (case kn3 => assumption); (case kn4 => omega); (case kn5 => omega); (case kn6 => with_unfolding_all rfl); k_whole)))
local macro_rules | `(tactic| walk_at "binaryOp Mod int int") => `(tactic| (k_here; (with_reducible refine Mine.mod_keep9 (by assumption) ?_)))
local macro_rules | `(tactic| walk_at "compareOp LtE int int") => `(tactic| (k_here; (with_reducible refine Mine.le_not9 (by assumption) ?_)))
local macro_rules | `(tactic| walk_at "compareOp GtE int int") => `(tactic| (k_here; (with_reducible refine Mine.ge_not9 (by assumption) ?_)))
local macro_rules | `(tactic| walk_at "compareOp Eq int int") => `(tactic| (k_here; (with_reducible first | refine Mine.eq_yes9 (by assumption) ?_ | refine Mine.eq_no9 (by assumption) ?_)))
local macro_rules | `(tactic| walk_at "execs cons") => `(tactic| (k_here; (with_reducible show wpAny _ _ (execs [PySem.Stmt.If (PySem.Expr.BoolOp PySem.BoolOp.And _ _) _ _ _] _) _ _ _); refine Mine.Stop.out ?_))
local macro_rules | `(tactic| walk_at "compareOp Gt int int") => `(tactic| (k_here; (with_reducible refine Mine.gt_not9 (by assumption) ?_)))
local macro_rules | `(tactic| walk_at "InvEnd") => `(tactic| (refine Mine.Stop.out ?_))
local macro_rules | `(tactic| walk_at "CompSrc") => `(tactic| (k_here; refine Mine.Stop.out ?_))
namespace Mine
open PySem.Builtin.Int (intBits)
set_option rowWalk.seconds 0
theorem w09 : PySem.Challenge.rw_dm0269_09.Holds := hd09 (by
  k_go0; (all_goals try k_fold)
  (try dsimp only)
  refine cut9b (by k_asm) ?C2 (fun cb9 => cut9 (by k_asm) (by rfl) ?C1 ?C3)
  case C2 =>
    dsimp only [List.drop]
    rename Below _ _ _ _ => B0
    rename Top _ _ _ _ _ _ => T0
    rename Frag.In _ _ => X0
    intro p x q t1 Q0 tp tx tq tt oP oQ m0 s0 Q0' row vs ys c ts D l G hI hT F0 N0 hoP hoQ e1 e2 e3 e4 hret
    have F1 := fr_has4 e1 e2 e3 e4 F0
    clear F0 e1 e2 e3 e4
    (try k_sweep)
    obtain ⟨hp1, hp2, hx1, hx2, hq0, ht0, hst, hlen, hR⟩ := G
    have htb := t9_bits (q := q) (by omega) (by omega) ht0
    refine wpAny_execs_cons ?_
    (try dsimp only)
    (k_dflt (refine' For_invVF F1 ?kz1 ?kz2 ?_; (case kz1 => exact rfl); (case kz2 => exact rfl); k_whole))
    walk1
    refine iter_refs9 [Str.ofString "part"] (by rfl) F1 N0 ⟨_, List.mem_cons_self⟩ (fun i v u h9 tk9 nw9 hv sub9 F9 N9 => ?_) (fun u h9 tk9 F9 N9 => ?_)
    · obtain ⟨k, D9, t9, u9, hk, rfl, hm⟩ := told_at hT hv
      have N9' := news_c3 N9 (sub9 _ (by simp only [List.mem_cons]; exact .inr (.inr (.inr (.inr hm))))) (sub9 (_, oQ) (by k_mem)) (sub9 (_, oP) (by k_mem))
      have hkr : k ∈ row := List.mem_of_getElem? hk
      obtain ⟨-, hd1, hd2, -⟩ := pt9 (c := k) (x := x) hp1 hp2 hx1 hx2 (by rw [hq0]; exact hR.dx k hkr)
      rw [hq0] at hd1 hd2
      clear N9 sub9 hm hv N0 F1
      unfold tup9 at N9'
      revert N9' hd1 hd2
      generalize dexpD k (-q) p = d
      generalize dexpE k (-q) p = f
      intro N9' hd1 hd2
      k_steps
      refine Stop.mk ?_
      rename Fr _ _ _ _ => F7
      refine iter_tup9 [] (by rfl) F7 N9' List.mem_cons_self (fun i7 v7 u7 h7 tk7 nw7 hv7 sub7 F8 N8 => ?_) (fun u7 h7 tk7 F8 N8 => ?_)
      · obtain ⟨n7, w7, rfl⟩ := two_at hv7
        clear F7 N9' hv7 sub7
        k_steps
        refine Stop.mk ?_
        refine' InvEnd.intro ?if1 ?in1 (fun z hz => hz) (fun z h1 h2 => ?ie1)
        case if1 => assumption
        case in1 => assumption
        case ie1 =>
          (try dsimp only)
          rw [if_neg h1]
          rfl
      · clear F7 N9'
        k_steps
        refine Stop.mk ?_
        refine' InvEnd.intro ?if2 ?in2 (fun z hz => ?sb2) (fun z h1 h2 => ?ie2)
        case if2 => assumption
        case in2 => assumption
        case sb2 => exact List.mem_cons_of_mem _ (List.mem_cons_of_mem _ (List.mem_cons_of_mem _ hz))
        case ie2 =>
          have h3 := ne_of_contains (y := Str.ofString "part") h2 (by decide)
          (try dsimp only)
          rw [if_neg h3, if_neg h1]
          simp only [h2, Bool.false_eq_true, if_false]
          rfl
    · (try dsimp only)
      refine wpAny_execs_cons ?_
      (try dsimp only)
      (k_dflt (refine' For_invVF F9 ?kz3 ?kz4 ?_; (case kz3 => exact rfl); (case kz4 => exact rfl); k_whole))
      clear F1 N0
      k_steps
      refine Stop.mk ?_
      rename IsRange _ _ _ _ _ _ _ _ => R6
      rename Fr _ _ _ _ => F6
      rename News _ _ _ _ => N6
      refine iter_range9 [Str.ofString "a", Str.ofString "b", Str.ofString "lower", Str.ofString "upper", Str.ofString "jump", Str.ofString "scale", Str.ofString "rise", Str.ofString "slack", Str.ofString "near", Str.ofString "far"] (by rfl) R6 (small_one (by omega) (by omega) (by omega) (by omega)) (rangeSize_nat _ _) F6 N6 (fun i k tk u h5 tk5 nw5 hi hk sub5 F5 N5 => ?_) (fun u h5 tk5 F5 N5 => ?_)
      · obtain ⟨a, b, ta, tb, D1, D2, da, fa, db, fb, t1', u1, t2, u2, va, vb, ya, yb, ma, mb, PR⟩ := pair9 hp1 hp2 hx1 hx2 hq0 ht0 hR hst hI hT hk hi
        have N5' := news_c6 N5 sub5 ma mb
        have hkl : k < 40 := by omega
        have hk0 : 0 ≤ k - 1 := by omega
        clear N5 sub5 ma mb R6 F6 N6 hk hT hI
        unfold tup9 at N5'
        obtain ⟨ab, bb, dab, dbb, j0, j1, st1, st2, ord⟩ := PR
        (try dsimp only at F5)
        (try dsimp only)
        k_steps
        have hM9 : Keep9 t1 := ⟨by subst ht0; exact (l10_pos (q := q) (by omega) (by omega)).1⟩
        have BT := bits9 (x := x) ab bb hM9.pos htb dab dbb (S := 10 ^ (fb - fa).toNat) (T := 10 ^ q.toNat) (X := 10 ^ x.toNat) (ten_bits46 (by omega)) (ten_bits46 (by omega)) (ten_bits46 (by omega))
        obtain ⟨c100, c62, w1, w2, w3, w4, m1, m2, m3, m4, m5, m6, m7, m8, y1, y2⟩ := BT
        iterate 6 (refine mul_int ?_ (mul_ok (by assumption) (by assumption)); k_steps)
        refine Stop.mk ?_
        refine wpAny_execs_cons ?_
        (try dsimp only)
        clear st1 st2 c100 c62 w1 w2 w3 w4 m1 m2 m3 m4 m5 m6 m7 m8 ab bb dab dbb
        by_cases hj0 : fb - fa = 0
        · have ord2 := ord hj0
          clear ord
          by_cases he9 : (stp (10 ^ q.toNat) (a % t1 - 10 ^ x.toNat) : Int) = (stp (10 ^ q.toNat) (b % t1 + 10 ^ x.toNat) : Int)
          · have hgt := ord2 (Int.ofNat.inj he9)
            clear ord2
            k_steps
            refine Stop.mk ?_
            (with_unfolding_all refine' c_steps ?k1_3 ?k2_3 ?k3_3 ?k4_3 ?k5_3 ?kK_3 ?y1_3 ?y2_3 ?y3_3 ?kd_3 ?ku_3 ?kR_3); (case k1_3 => k_asm); (case k2_3 => k_asm); (case k3_3 => k_asm); (case k4_3 => k_asm); (case k5_3 => k_asm); (case kK_3 => first | exact rfl | assumption); (case y1_3 => exact y1); (case y2_3 => omega); (case y3_3 => omega); (case kd_3 => ktr_room); (case ku_3 => ktr_units); (intro t95 h95 tk95 F95 N95); (try dsimp only); (try k_fold)
            k_steps
            refine Stop.mk ?_
            (with_unfolding_all refine' c_steps ?k1_4 ?k2_4 ?k3_4 ?k4_4 ?k5_4 ?kK_4 ?y1_4 ?y2_4 ?y3_4 ?kd_4 ?ku_4 ?kR_4); (case k1_4 => k_asm); (case k2_4 => k_asm); (case k3_4 => k_asm); (case k4_4 => k_asm); (case k5_4 => k_asm); (case kK_4 => first | exact rfl | assumption); (case y1_4 => exact y2); (case y2_4 => omega); (case y3_4 => omega); (case kd_4 => ktr_room); (case ku_4 => ktr_units); (intro t96 h96 tk96 F96 N96); (try dsimp only); (try k_fold)
            k_steps
            refine Stop.mk ?_
            refine' InvEnd.intro ?ifx ?inx (fun z hz => ?sbx) (fun z h1 h2 => ?iex)
            case ifx => assumption
            case inx => assumption
            case sbx => repeat (first | exact hz | refine List.mem_cons_of_mem _ ?_)
            case iex =>
              have n0 := ne_of_contains (y := Str.ofString "a") h2 (by decide)
              have n1 := ne_of_contains (y := Str.ofString "b") h2 (by decide)
              have n2 := ne_of_contains (y := Str.ofString "lower") h2 (by decide)
              have n3 := ne_of_contains (y := Str.ofString "upper") h2 (by decide)
              have n4 := ne_of_contains (y := Str.ofString "jump") h2 (by decide)
              have n5 := ne_of_contains (y := Str.ofString "scale") h2 (by decide)
              have n6 := ne_of_contains (y := Str.ofString "rise") h2 (by decide)
              have n7 := ne_of_contains (y := Str.ofString "slack") h2 (by decide)
              have n8 := ne_of_contains (y := Str.ofString "near") h2 (by decide)
              have n9 := ne_of_contains (y := Str.ofString "far") h2 (by decide)
              simp only [h1, n0, n1, n2, n3, n4, n5, n6, n7, n8, n9, h2, Bool.false_eq_true, if_false]
          · clear ord2
            k_steps
            refine Stop.mk ?_
            (with_unfolding_all refine' c_steps ?k1_5 ?k2_5 ?k3_5 ?k4_5 ?k5_5 ?kK_5 ?y1_5 ?y2_5 ?y3_5 ?kd_5 ?ku_5 ?kR_5); (case k1_5 => k_asm); (case k2_5 => k_asm); (case k3_5 => k_asm); (case k4_5 => k_asm); (case k5_5 => k_asm); (case kK_5 => first | exact rfl | assumption); (case y1_5 => exact y1); (case y2_5 => omega); (case y3_5 => omega); (case kd_5 => ktr_room); (case ku_5 => ktr_units); (intro t95 h95 tk95 F95 N95); (try dsimp only); (try k_fold)
            k_steps
            refine Stop.mk ?_
            (with_unfolding_all refine' c_steps ?k1_6 ?k2_6 ?k3_6 ?k4_6 ?k5_6 ?kK_6 ?y1_6 ?y2_6 ?y3_6 ?kd_6 ?ku_6 ?kR_6); (case k1_6 => k_asm); (case k2_6 => k_asm); (case k3_6 => k_asm); (case k4_6 => k_asm); (case k5_6 => k_asm); (case kK_6 => first | exact rfl | assumption); (case y1_6 => exact y2); (case y2_6 => omega); (case y3_6 => omega); (case kd_6 => ktr_room); (case ku_6 => ktr_units); (intro t96 h96 tk96 F96 N96); (try dsimp only); (try k_fold)
            k_steps
            refine Stop.mk ?_
            refine' InvEnd.intro ?ify ?iny (fun z hz => ?sby) (fun z h1 h2 => ?iey)
            case ify => assumption
            case iny => assumption
            case sby => repeat (first | exact hz | refine List.mem_cons_of_mem _ ?_)
            case iey =>
              have n0 := ne_of_contains (y := Str.ofString "a") h2 (by decide)
              have n1 := ne_of_contains (y := Str.ofString "b") h2 (by decide)
              have n2 := ne_of_contains (y := Str.ofString "lower") h2 (by decide)
              have n3 := ne_of_contains (y := Str.ofString "upper") h2 (by decide)
              have n4 := ne_of_contains (y := Str.ofString "jump") h2 (by decide)
              have n5 := ne_of_contains (y := Str.ofString "scale") h2 (by decide)
              have n6 := ne_of_contains (y := Str.ofString "rise") h2 (by decide)
              have n7 := ne_of_contains (y := Str.ofString "slack") h2 (by decide)
              have n8 := ne_of_contains (y := Str.ofString "near") h2 (by decide)
              have n9 := ne_of_contains (y := Str.ofString "far") h2 (by decide)
              simp only [h1, n0, n1, n2, n3, n4, n5, n6, n7, n8, n9, h2, Bool.false_eq_true, if_false]
        · clear ord
          k_steps
          refine Stop.mk ?_
          refine' InvEnd.intro ?ifz ?inz (fun z hz => ?sbz) (fun z h1 h2 => ?iez)
          case ifz => assumption
          case inz => assumption
          case sbz => repeat (first | exact hz | refine List.mem_cons_of_mem _ ?_)
          case iez =>
            have n0 := ne_of_contains (y := Str.ofString "a") h2 (by decide)
            have n1 := ne_of_contains (y := Str.ofString "b") h2 (by decide)
            have n2 := ne_of_contains (y := Str.ofString "lower") h2 (by decide)
            have n3 := ne_of_contains (y := Str.ofString "upper") h2 (by decide)
            have n4 := ne_of_contains (y := Str.ofString "jump") h2 (by decide)
            have n5 := ne_of_contains (y := Str.ofString "scale") h2 (by decide)
            have n6 := ne_of_contains (y := Str.ofString "rise") h2 (by decide)
            have n7 := ne_of_contains (y := Str.ofString "slack") h2 (by decide)
            have n8 := ne_of_contains (y := Str.ofString "near") h2 (by decide)
            have n9 := ne_of_contains (y := Str.ofString "far") h2 (by decide)
            simp only [h1, n0, n1, n2, n3, n4, n5, n6, n7, n8, n9, h2, Bool.false_eq_true, if_false]
      · (try dsimp only)
        clear F6 N6 R6
        k_steps
        exact hret _ _ _ (by k_asm)
  case C1 =>
    dsimp only [List.drop]
    rename Below _ _ _ _ => B0
    rename Top _ _ _ _ _ _ => T0
    rename Frag.In _ _ => X0
    intro p x q t1 least tp tx tq tt tl oP oQ m0 s0 Q0 BB F0 N0 hoP hoQ e0 e1 e2 e3 hret
    have F1 := fr_has4 e0 e1 e2 e3 F0
    clear F0 e0 e1 e2 e3
    (try k_sweep)
    obtain ⟨hp1, hp2, hx1, hx2, hq0, ht0, B, hlb⟩ := BB
    have htb := t9_bits (q := q) (by omega) (by omega) ht0
    have t0 := B.t0
    refine wpAny_execs_cons ?_
    (try dsimp only)
    k_steps
    refine Stop.mk ?_
    refine floordiv_pos t0 (bits_mono htb) ?_
    k_steps
    refine mul_int ?_ (mul_ok (q9_bits (t := t1) hlb) htb)
    k_steps
    refine Stop.mk ?_
    refine floordiv_pos t0 (bits_mono htb) ?_
    k_steps
    refine mul_int ?_ (mul_ok (q9_bits (t := t1) hlb) htb)
    k_steps
    refine Stop.mk ?_
    k_with "state" => first | exact R9.start B | exact row9_turn (by assumption) B hcb (by assumption) (by assumption) | exact IntsAre.append (by assumption) (.cons _ _ (.cons _ _ .nil))
    k_state (fun pre pts => R9 q x t1 (least / t1) pre.length pts) "points"
    · k_steps
      refine mul_int ?_ (mul_ok (intBits_mul_le (m6_bits (by assumption) (by assumption)) (PySem.intBits_le_64 (k := 2) (by decide) (by decide))) htb)
      k_steps
      refine Stop.mk ?_
      refine floordiv_pos (ten_pos _) (bits_mono (ten_bits (by decide))) ?_
      k_steps
      refine Stop.mk ?_
      refine gen_int2 (P := fun x u => wpAny _ _ (storeName _ _ (Value.int x u)) _ _ _) _ _ ?_
      intro c tc hc0
      have hcb := c9_bounds t0 (by assumption) (by assumption) hc0
      clear hc0
      refine storeX_L (by k_asm) (by k_asm) ?_
      intro h' F' N'
      (try dsimp only)
      k_steps
      have hpl := pre9 kEq
      have hwl := kLen
      have hkl := kInv.len
      rw [hkl] at hwl
      (k_dflt (refine' extend9 ?xF ?xN ?xb ?xU kFacts ?xl ?_; (case xF => k_asm); (case xN => k_asm); (case xb => k_mem); (case xU => (intro o'; k_upd))))
      case xl => omega
      intro ws9 c9 h9 hI9 F9 N9
      (try dsimp only at N9)
      k_steps
    · k_steps
      (try dsimp only)
      have hrl := len9 kInv.len
      (k_dflt (refine' ksk_lsort ?sF ?sN ?sU (ksk_tl _) kFacts ?s6 ?_; (case sF => k_asm); (case sN => k_asm); (case sU => (intro o'; k_upd))))
      case s6 => omega
      intro vs2 row2 c2 h2 F2 N2 hI2 hl2 hpm hst hno
      clear hno
      (try dsimp only [List.nil_append, List.cons_append] at N2)
      k_steps
      refine Stop.mk ?_
      refine LCg.CompSrc.ledger (by rfl) (by k_asm) (by k_asm) (by k_mem) ?z6 ?_
      case z6 => rw [PySem.sizeLine_eq]; simp only [List.size_toArray]; have := hI2.length; omega
      intro g9
      refine comp_tup_list (fun c => dexpD c (-q) p) (fun c => dexpE c (-q) p) hI2 (fun k9 t9 I9 oI9 C9 oC9 D9 m9 ys9 nw9 h9 tk9 E9 hk9 hC9 hx9 F9 sub9 N9 off9 ne9 => ?_) (fun ys ts hT => ?_)
      · have N9' := news_ins N9 (sub9 (_, oQ) (by k_mem)) (sub9 (_, oP) (by k_mem))
        have hS9 := sub9 (_, W.listOf vs2.toArray c2) (by k_mem)
        have hxx : dxX k9 (-q) = x := kInv.row.dx k9 (hpm.mem_iff.mp hk9)
        obtain ⟨-, -, -, hpre⟩ := pt9 (c := k9) (x := x) hp1 hp2 hx1 hx2 (by rw [hq0]; exact hxx)
        rw [hq0] at hpre
        clear N9 sub9 ne9 N2 F2 kNews kFr kMark
        (try dsimp only)
        iterate 15 walk1
        refine Stop.mk ?_
        (with_unfolding_all refine' c_dexpV ?k1_2 ?k2_2 ?k3_2 ?k4_2 ?k5_2 ?kK_2 ?p1_2 ?p2_2 ?p3_2 ?p4_2 ?p5_2 ?p6_2 ?p65_2 ?p7_2 ?p8_2 ?p9_2 ?kd_2 ?ku_2 ?kR_2); (case k1_2 => k_asm); (case k2_2 => k_asm); (case k3_2 => k_asm); (case k4_2 => k_asm); (case k5_2 => k_asm); (case kK_2 => first | exact rfl | assumption); (case p1_2 => exact bits_mono (bits_dx (by omega) (by omega) hx1 hx2 hxx)); (case p2_2 => omega); (case p3_2 => omega); (case p4_2 => omega); (case p5_2 => omega); (case p6_2 => omega); (case p65_2 => omega); (case p7_2 => exact hpre); (case p8_2 => exact rfl); (case p9_2 => exact rfl); (case kd_2 => ktr_room); (case ku_2 => ktr_units); (intro D8 t81 t82 h8 tk8 F8 N8 l8); (try dsimp only); (try k_fold)
        exact comp_end9 F8 N8 l8 off9 hS9
      · unfold LCg.FinA
        intro D8 h8 tk8 F8 N8 o8
        have N8' := news_pts N8 (x := (_, W.listOf vs2.toArray c2)) (q := (_, oQ)) (p := (_, oP)) (by k_mem) (by k_mem) (by k_mem)
        clear o8 N8 N2 F2 kNews kFr kMark
        (try dsimp only at F8)
        (try dsimp only)
        dsimp only [List.drop] at cb9
        refine' tail9b_use cb9 ⟨hp1, hp2, hx1, hx2, hq0, ht0, hst, by omega, kInv.row.perm hpm⟩ hI2 hT F8 N8' ?ub1 ?ub2 ?ub3 ?ub4 ?ub5 ?ub6 ?ub7
        case ub1 => assumption
        case ub2 => assumption
        case ub3 => rfl
        case ub4 => rfl
        case ub5 => rfl
        case ub6 => rfl
        case ub7 => exact hret
  case C3 =>
    dsimp only [List.drop]
    intro c1
    k_steps
    refine Stop.mk ?_
    refine gen_int2 (P := fun x u => wpAny _ _ (storeName _ _ (Value.int x u)) _ _ _) _ _ ?_
    intro p tp hp0
    have hp1 : 1 ≤ p := by omega
    have hp2 : p ≤ 30 := by omega
    clear hp0
    (k_dflt (refine' storeX_C ?y1F ?y1N ?y1c ?y1U ?y1d ?_ ?y1a ?y1b; (case y1a => rfl); (case y1b => rfl); (case y1F => k_asm); (case y1N => k_asm); (case y1c => rfl); (case y1U => k_updF); (case y1d => k_asm); k_whole; intro h' o' F' N' d'; (try dsimp only at N')))
    (try dsimp only)
    k_steps
    refine Stop.mk ?_
    refine gen_int2 (P := fun x u => wpAny _ _ (storeName _ _ (Value.int x u)) _ _ _) _ _ ?_
    intro x tx hx0
    have hx1 : 0 ≤ x := by omega
    have hx2 : x ≤ 4 := by omega
    clear hx0
    refine storeX_L (by k_asm) (by k_asm) ?_
    intro h' F' N'
    (try dsimp only)
    k_steps
    refine Stop.mk ?_
    refine gen_int2 (P := fun x u => wpAny _ _ (storeName _ _ (Value.int x u)) _ _ _) _ _ ?_
    intro q tq hq0
    (k_dflt (refine' storeX_C ?y2F ?y2N ?y2c ?y2U ?y2d ?_ ?y2a ?y2b; (case y2a => rfl); (case y2b => rfl); (case y2F => k_asm); (case y2N => k_asm); (case y2c => rfl); (case y2U => k_updF); (case y2d => k_asm); k_whole; intro h' o' F' N' d'; (try dsimp only at N')))
    (try dsimp only)
    k_steps
    refine Stop.mk ?_
    (with_unfolding_all refine' c_l10 ?k1_1 ?k2_1 ?k3_1 ?k4_1 ?k5_1 ?kK_1 ?p1_1 ?p2_1 ?kd_1 ?ku_1 ?kR_1); (case k1_1 => k_asm); (case k2_1 => k_asm); (case k3_1 => k_asm); (case k4_1 => k_asm); (case k5_1 => k_asm); (case kK_1 => first | exact rfl | assumption); (case p1_1 => omega); (case p2_1 => omega); (case kd_1 => ktr_room); (case ku_1 => ktr_units); (intro t9 h9 tk9 F9 N9); (try dsimp only); (try k_fold)
    k_steps
    refine Stop.mk ?_
    refine gen_int2 (P := fun x u => wpAny _ _ (storeName _ _ (Value.int x u)) _ _ _) _ _ ?_
    intro t tt ht0
    refine storeX_L (by k_asm) (by k_asm) ?_
    intro h' F' N'
    (try dsimp only)
    k_steps
    · refine Stop.mk ?_
      refine floordiv_pos (by decide) (bits_small (b := 5) (by decide) (by decide)) ?_
      k_steps
      · have htb := t9_bits (q := q) (by omega) (by omega) ht0
        refine mul_int ?_ (mul_ok (m6_bits (by assumption) (by assumption)) (wd_bits (w9a (by omega)) htb))
        k_steps
        refine Stop.mk ?_
        refine floordiv_pos (ten_pos _) (bits_mono (ten_bits (by decide))) ?_
        k_steps
        refine Stop.mk ?_
        refine gen_int2 (P := fun x u => wpAny _ _ (storeName _ _ (Value.int x u)) _ _ _) _ _ ?_
        intro least tl hl0
        have BB := b9_of hp1 hp2 hx1 hx2 hq0 ht0 (by assumption) (by assumption) hl0 (.inl ⟨by omega, rfl, rfl⟩)
        clear hl0
        refine storeX_L (by k_asm) (by k_asm) ?_
        intro h' F' N'
        (try dsimp only)
        k_steps
        refine Stop.mk ?_
        refine' tail9_use c1 BB (by k_asm) ?zsa ?zxa ?zta ?zla ?zna ?zpa ?zqa ?zra
        case zsa => rfl
        case zxa => rfl
        case zta => rfl
        case zla => rfl
        case zna => first | k_asm | (refine' cb_drop ?cbNa ?cbSa; (case cbNa => assumption); (case cbSa => kcj_all))
        case zpa => assumption
        case zqa => assumption
        case zra =>
          intro m8 h8 tk8 F8
          k_steps
      · have htb := t9_bits (q := q) (by omega) (by omega) ht0
        refine mul_int ?_ (mul_ok (m6_bits (by assumption) (by assumption)) (wd_bits (w9b (by omega)) htb))
        k_steps
        refine Stop.mk ?_
        refine floordiv_pos (ten_pos _) (bits_mono (ten_bits (by decide))) ?_
        k_steps
        refine Stop.mk ?_
        refine gen_int2 (P := fun x u => wpAny _ _ (storeName _ _ (Value.int x u)) _ _ _) _ _ ?_
        intro least tl hl0
        have BB := b9_of hp1 hp2 hx1 hx2 hq0 ht0 (by assumption) (by assumption) hl0 (.inr (.inl ⟨by omega, rfl, rfl⟩))
        clear hl0
        refine storeX_L (by k_asm) (by k_asm) ?_
        intro h' F' N'
        (try dsimp only)
        k_steps
        refine Stop.mk ?_
        refine' tail9_use c1 BB (by k_asm) ?zsb ?zxb ?ztb ?zlb ?znb ?zpb ?zqb ?zrb
        case zsb => rfl
        case zxb => rfl
        case ztb => rfl
        case zlb => rfl
        case znb => first | k_asm | (refine' cb_drop ?cbNb ?cbSb; (case cbNb => assumption); (case cbSb => kcj_all))
        case zpb => assumption
        case zqb => assumption
        case zrb =>
          intro m8 h8 tk8 F8
          k_steps
    · have htb := t9_bits (q := q) (by omega) (by omega) ht0
      refine mul_int ?_ (mul_ok (m6_bits (by assumption) (by assumption)) (wd_bits (w9c (by omega)) htb))
      k_steps
      refine Stop.mk ?_
      refine floordiv_pos (ten_pos _) (bits_mono (ten_bits (by decide))) ?_
      k_steps
      refine Stop.mk ?_
      refine gen_int2 (P := fun x u => wpAny _ _ (storeName _ _ (Value.int x u)) _ _ _) _ _ ?_
      intro least tl hl0
      have BB := b9_of hp1 hp2 hx1 hx2 hq0 ht0 (by assumption) (by assumption) hl0 (.inr (.inr ⟨by omega, rfl, rfl⟩))
      clear hl0
      refine storeX_L (by k_asm) (by k_asm) ?_
      intro h' F' N'
      (try dsimp only)
      k_steps
      refine Stop.mk ?_
      refine' tail9_use c1 BB (by k_asm) ?zsc ?zxc ?ztc ?zlc ?znc ?zpc ?zqc ?zrc
      case zsc => rfl
      case zxc => rfl
      case ztc => rfl
      case zlc => rfl
      case znc => first | k_asm | (refine' cb_drop ?cbNc ?cbSc; (case cbNc => assumption); (case cbSc => kcj_all))
      case zpc => assumption
      case zqc => assumption
      case zrc =>
        intro m8 h8 tk8 F8
        k_steps
  )
end Mine


theorem PySem.Challenge.cw_dm0269_09_holds : PySem.Challenge.rw_dm0269_09.Holds :=
  Mine.w09
