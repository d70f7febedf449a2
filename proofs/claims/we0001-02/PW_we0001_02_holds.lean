import PyProof.Rows.All
import Wide.All
import OpenK.AllK
import Wide.FinOn
import PySem.Challenge.RW_we0001_02
set_option Elab.async false
section
open PySem PySem.W PyProof.Rows
namespace Mine
open_top hd for PySem.Challenge.rw_we0001_02
end Mine
end
section
open PySem PySem.W PyProof.Rows
namespace Mine
/-- a claim that is left for later -/
def Ob (P : Prop) : Prop := P
theorem Ob.mk {P : Prop} (h : P) : Ob P := h
theorem Ob.out {P : Prop} (h : Ob P) : P := h
/-- the size that all our numbers stay under -/
def HB : Nat := 100000
theorem HB_eq : HB = 100000 := rfl
def Sm (x : Int) : Prop := x.natAbs < 2 ^ HB
theorem sm_of_lt {x : Int} {n : Nat} (h : x.natAbs < 2 ^ n) (hn : n ≤ 100000) : Sm x :=
  Nat.lt_of_lt_of_le h (Nat.pow_le_pow_right (by decide) hn)
theorem pow2_pos (n : Nat) : (0 : Int) < 2 ^ n := pow_pos_of (by decide) n
theorem cast_pow2 (n : Nat) : ((2 ^ n : Nat) : Int) = (2 : Int) ^ n := kbt_cast n
theorem sm_of_int {x : Int} {n : Nat} (h0 : -(2 ^ n) < x) (h1 : x < 2 ^ n) (hn : n ≤ 100000) : Sm x := by
  refine sm_of_lt (n := n) ?_ hn
  have h := cast_pow2 n
  omega
theorem sm_nn {x : Int} {n : Nat} (h0 : 0 ≤ x) (h1 : x < 2 ^ n) (hn : n ≤ 100000) : Sm x :=
  sm_of_int (by have := pow2_pos n; omega) h1 hn
theorem bits_le {x : Int} {n : Nat} (h : x.natAbs < 2 ^ n) : Builtin.Int.intBits x ≤ n := by
  unfold Builtin.Int.intBits
  by_cases hx : (x == 0) = true
  · rw [if_pos hx]; exact Nat.zero_le _
  · rw [if_neg hx]
    have hne : x.natAbs ≠ 0 := by
      intro h0
      apply hx
      have : x = 0 := Int.natAbs_eq_zero.mp h0
      simp [this]
    have := (Nat.log2_lt hne).mpr h
    omega
theorem sm_bits {x : Int} (h : Sm x) : Builtin.Int.intBits x ≤ 100000 := HB_eq ▸ bits_le (n := HB) h

section
variable {prog : Program} {w : World} {A : Around} {E : Value → Shared → Prop} {s : Shared} {a b n : Int} {t u : Tok} {Q : Value → Shared → Prop}
theorem r_lsh (h : Q (.int (a * 2 ^ n.toNat) s.toks) { s with toks := s.toks + 1 }) (ho : Ob (0 ≤ n ∧ n ≤ 100000 ∧ Sm a)) :
    wpAny (model prog w) A (binaryOp .LShift (.int a t) (.int n u)) Q E s := by
  obtain ⟨h0, h1, h2⟩ := ho
  have := sm_bits h2
  exact lshift_int h0 (by omega) h
theorem r_ilsh (h : Q (.int (a * 2 ^ n.toNat) s.toks) { s with toks := s.toks + 1 }) (ho : Ob (0 ≤ n ∧ n ≤ 100000 ∧ Sm a)) :
    wpAny (model prog w) A (inplaceOp .LShift (.int a t) (.int n u)) Q E s := by
  obtain ⟨h0, h1, h2⟩ := ho
  have := sm_bits h2
  exact ilshift_int h0 (by omega) h
theorem r_mul (h : Q (.int (a * b) s.toks) { s with toks := s.toks + 1 }) (ho : Ob (Sm a ∧ Sm b)) :
    wpAny (model prog w) A (binaryOp .Mult (.int a t) (.int b u)) Q E s := by
  have h1 := sm_bits ho.1
  have h2 := sm_bits ho.2
  exact mul_int h (IntMulOk.of_bits (by omega) (by omega))
theorem r_fdiv (h : Q (.int (a.fdiv b) s.toks) { s with toks := s.toks + 1 }) (ho : Ob (b ≠ 0 ∧ Builtin.divisionGoesByPylong a b = false)) :
    wpAny (model prog w) A (binaryOp .FloorDiv (.int a t) (.int b u)) Q E s := floordiv_int ho.1 h (.inl ho.2)
theorem r_mod (h : Q (.int (a.fmod b) s.toks) { s with toks := s.toks + 1 }) (ho : Ob (b ≠ 0)) :
    wpAny (model prog w) A (binaryOp .Mod (.int a t) (.int b u)) Q E s := mod_int' ho h
theorem r_rsh (h : Q (.int (a.fdiv (2 ^ n.toNat)) s.toks) { s with toks := s.toks + 1 }) (ho : Ob (0 ≤ n)) :
    wpAny (model prog w) A (binaryOp .RShift (.int a t) (.int n u)) Q E s := rshift_int ho h
theorem r_irsh (h : Q (.int (a.fdiv (2 ^ n.toNat)) s.toks) { s with toks := s.toks + 1 }) (ho : Ob (0 ≤ n)) :
    wpAny (model prog w) A (inplaceOp .RShift (.int a t) (.int n u)) Q E s := irshift_int ho h
theorem r_divmod {h₀ : Heap} {L : Addr} {m : Str → Option Value} {news : List (Addr × Obj)} (F : Fr h₀ L s.heap m) (N : News h₀ L s.heap news)
    (h : ∀ p h', Fr h₀ L h' m → News h₀ L h' ((p, { cls := .type "tuple", data := .seq #[.int (a.fdiv b) s.toks, .int (a.fmod b) (s.toks + 1)] }) :: news) → (∀ q ∈ news, q.1 < p) →
      Q (.ref p) { s with toks := s.toks + 1 + 1, heap := h' })
    (ho : Ob (b ≠ 0 ∧ Builtin.divisionGoesByPylong a b = false)) :
    wpAny (model prog w) A (call (.builtin "divmod") [.int a t, .int b u]) Q E s :=
  divmod_N F N ho.1 (fun h' F' N' => h _ h' F' N' fun q hq => Heap.lt_size (N q hq).1) (.inl ho.2)
end

/-- no long division: the dividend is not much longer than the divisor -/
theorem no_pylong {a b : Int} {k : Nat} (ha : a.natAbs < 2 ^ (k + 4400)) (hb : 2 ^ k ≤ b.natAbs) : Builtin.divisionGoesByPylong a b = false := by
  have hb0 : b.natAbs ≠ 0 := by
    intro h; rw [h] at hb; have := Nat.two_pow_pos k; omega
  have e2 : k ≤ b.natAbs.log2 := (Nat.le_log2 hb0).mpr hb
  have hbn : (b == 0) = false := by
    cases h : b == 0 with
    | false => rfl
    | true => exact absurd (Int.natAbs_eq_zero.mpr (eq_of_beq h)) hb0
  unfold Builtin.divisionGoesByPylong
  dsimp only
  by_cases ha0 : (a == 0) = true
  · simp [ha0, hbn]
  · have ha0' : a.natAbs ≠ 0 := by
      intro h; apply ha0; rw [Int.natAbs_eq_zero.mp h]; rfl
    have e1 : a.natAbs.log2 < k + 4400 := (Nat.log2_lt ha0').mpr ha
    have ha0f : (a == 0) = false := by simpa using ha0
    simp only [ha0f, hbn, Bool.false_eq_true, if_false, Bool.and_eq_false_iff, decide_eq_false_iff_not]
    right
    omega

theorem fdiv_pos {a b : Int} (hb : 0 ≤ b) : a.fdiv b = a / b := Int.fdiv_eq_ediv_of_nonneg a hb
theorem fmod_pos {a b : Int} (hb : 0 ≤ b) : a.fmod b = a % b := Int.fmod_eq_emod_of_nonneg a hb

theorem and_shift (x y k : Nat) (hy : y < 2 ^ k) : (2 ^ k * x) &&& y = 0 := by
  have h1 := nat_or_add_and (2 ^ k * x) y
  have h2 := Nat.two_pow_add_eq_or_of_lt hy x
  omega
theorem bitOr_shift {x y : Int} {k : Nat} (hx : 0 ≤ x) (hy : 0 ≤ y) (hy' : y < 2 ^ k) : Builtin.bitOr (x * 2 ^ k) y = x * 2 ^ k + y := by
  have hp := pow2_pos k
  have hx' : 0 ≤ x * 2 ^ k := Int.mul_nonneg hx (Int.le_of_lt hp)
  rw [bitOr_and, bitAnd_pp hx' hy]
  have e : (x * 2 ^ k).toNat = 2 ^ k * x.toNat := by
    have h1 : ((2 ^ k * x.toNat : Nat) : Int) = x * 2 ^ k := by
      rw [Int.natCast_mul, cast_pow2, Int.toNat_of_nonneg hx, Int.mul_comm]
    omega
  have hy2 : y.toNat < 2 ^ k := by have := cast_pow2 k; omega
  rw [e, and_shift _ _ _ hy2]
  simp

/-- what _div3n2n is called with -/
structure D3pre (a12 a3 b b1 b2 n : Int) : Prop where
  n1 : 1 ≤ n
  n2 : n ≤ 40000
  hb : b = b1 * 2 ^ n.toNat + b2
  b20 : 0 ≤ b2
  b2l : b2 < 2 ^ n.toNat
  b1l : b1 < 2 ^ n.toNat
  b1g : 2 ^ n.toNat ≤ 2 * b1
  a0 : 0 ≤ a12
  al : a12 < b
  a30 : 0 ≤ a3
  a3l : a3 < 2 ^ n.toNat
/-- what _div2n1n is called with -/
structure D2pre (a b n : Int) : Prop where
  n1 : 1 ≤ n
  n2 : n ≤ 40000
  bl : b < 2 ^ n.toNat
  bg : 2 ^ n.toNat ≤ 2 * b
  a0 : 0 ≤ a
  al : a < 2 ^ n.toNat * b

section
variable {a12 a3 b b1 b2 n : Int}
theorem D3pre.b1p (h : D3pre a12 a3 b b1 b2 n) : 0 < b1 := by
  have := h.b1g; have := pow2_pos n.toNat; omega
theorem D3pre.bp (h : D3pre a12 a3 b b1 b2 n) : 0 < b := by
  have := h.a0; have := h.al; omega
theorem D3pre.d2 (h : D3pre a12 a3 b b1 b2 n) (hc : a12.fdiv (2 ^ n.toNat) ≠ b1) : D2pre a12 b1 n := by
  refine ⟨h.n1, h.n2, h.b1l, h.b1g, h.a0, ?_⟩
  have hp := pow2_pos n.toNat
  rw [fdiv_pos (Int.le_of_lt hp)] at hc
  have h1 : a12 / 2 ^ n.toNat ≤ b1 := by
    have h2 : a12 < (b1 + 1) * 2 ^ n.toNat := by
      have := h.hb; have := h.al; have := h.b2l
      rw [Int.add_mul]; omega
    have := (Int.ediv_lt_iff_lt_mul hp).mpr h2
    omega
  have h3 : a12 / 2 ^ n.toNat < b1 := by omega
  have h4 := (Int.ediv_lt_iff_lt_mul hp).mp h3
  rw [Int.mul_comm]; exact h4
/-- the state ahead of the loop -/
theorem D3pre.start {q r : Int} (h : D3pre a12 a3 b b1 b2 n) (hq : q * b1 + r = a12) (hr : 0 ≤ r) (hl : q * b + (r * 2 ^ n.toNat + a3 - q * b2) < q * b + b) :
    q * b + (Builtin.bitOr (r * 2 ^ n.toNat) a3 - q * b2) = a12 * 2 ^ n.toNat + a3 ∧ Builtin.bitOr (r * 2 ^ n.toNat) a3 - q * b2 < b := by
  rw [bitOr_shift hr h.a30 h.a3l]
  refine ⟨?_, by omega⟩
  rw [h.hb, ← hq]
  grind
theorem D3pre.start1 (h : D3pre a12 a3 b b1 b2 n) (hc : a12.fdiv (2 ^ n.toNat) = b1) :
    (1 * 2 ^ n.toNat - 1) * b + (Builtin.bitOr ((a12 - b1 * 2 ^ n.toNat + b1) * 2 ^ n.toNat) a3 - (1 * 2 ^ n.toNat - 1) * b2) = a12 * 2 ^ n.toNat + a3 ∧ Builtin.bitOr ((a12 - b1 * 2 ^ n.toNat + b1) * 2 ^ n.toNat) a3 - (1 * 2 ^ n.toNat - 1) * b2 < b := by
  have hp := pow2_pos n.toNat
  rw [fdiv_pos (Int.le_of_lt hp)] at hc
  have hm := Int.emod_nonneg a12 (show (2 : Int) ^ n.toNat ≠ 0 by omega)
  have hd := Int.emod_def a12 (2 ^ n.toNat)
  rw [hc] at hd
  have hb1 := h.b1p
  refine h.start (q := 1 * 2 ^ n.toNat - 1) (r := a12 - b1 * 2 ^ n.toNat + b1) (by grind) (by rw [Int.mul_comm] at hd; omega) ?_
  have hal := h.al
  have h3 := h.a3l
  have key : (1 * 2 ^ n.toNat - 1) * b + ((a12 - b1 * 2 ^ n.toNat + b1) * 2 ^ n.toNat + a3 - (1 * 2 ^ n.toNat - 1) * b2) = a12 * 2 ^ n.toNat + a3 := by
    rw [h.hb]; grind
  rw [key]
  have h4 : a12 * 2 ^ n.toNat + a3 < (a12 + 1) * 2 ^ n.toNat := by rw [Int.add_mul]; omega
  have h5 : (a12 + 1) * 2 ^ n.toNat ≤ b * 2 ^ n.toNat := Int.mul_le_mul_of_nonneg_right (by omega) (Int.le_of_lt hp)
  have h6 : (1 * 2 ^ n.toNat - 1) * b + b = b * 2 ^ n.toNat := by grind
  omega
theorem D3pre.start2 (h : D3pre a12 a3 b b1 b2 n) :
    (a12 / b1) * b + (Builtin.bitOr ((a12 % b1) * 2 ^ n.toNat) a3 - (a12 / b1) * b2) = a12 * 2 ^ n.toNat + a3 ∧ Builtin.bitOr ((a12 % b1) * 2 ^ n.toNat) a3 - (a12 / b1) * b2 < b := by
  have hp := pow2_pos n.toNat
  have hb1 := h.b1p
  have hm := Int.emod_nonneg a12 (show b1 ≠ 0 by omega)
  have hl := Int.emod_lt_of_pos a12 hb1
  have hd := Int.emod_def a12 b1
  refine h.start (q := a12 / b1) (r := a12 % b1) (by rw [Int.mul_comm]; omega) hm ?_
  have hq : 0 ≤ a12 / b1 := Int.ediv_nonneg h.a0 (Int.le_of_lt hb1)
  have h1 : 0 ≤ a12 / b1 * b2 := Int.mul_nonneg hq h.b20
  have h2 : (a12 % b1 + 1) * 2 ^ n.toNat ≤ b1 * 2 ^ n.toNat := Int.mul_le_mul_of_nonneg_right (by omega) (Int.le_of_lt hp)
  have h3 := h.a3l
  have h4 := h.b20
  have h5 := h.hb
  rw [Int.add_mul] at h2
  omega
theorem d3_turn {A q r : Int} (h1 : q * b + r = A) (h2 : r < b) (hr : r < 0) : (q - 1) * b + (r + b) = A ∧ r + b < b :=
  ⟨by rw [← h1, Int.sub_mul]; omega, by omega⟩
theorem D3pre.turn {A q r : Int} (hP : q * b + r = A ∧ r < b) : (q - 1) * b + (r + b) = A := by
  rw [← hP.1, Int.sub_mul]; omega
theorem D3pre.done {A q r : Int} (h : D3pre a12 a3 b b1 b2 n) (hP : q * b + r = A ∧ r < b) (hr : ¬ r < 0) : A / b = q ∧ A % b = r :=
  kbt_unique h.bp (by rw [← hP.1, Int.mul_comm b]; omega) (by omega) hP.2
/-- sizes -/
theorem pow2_le {i j : Nat} (h : i ≤ j) : (2 : Int) ^ i ≤ 2 ^ j := by
  have h1 := cast_pow2 i; have h2 := cast_pow2 j
  have := Nat.pow_le_pow_right (n := 2) (by decide) h
  omega
theorem pow2_add (i j : Nat) : (2 : Int) ^ (i + j) = 2 ^ i * 2 ^ j := Int.pow_add 2 i j
theorem D3pre.bsm (h : D3pre a12 a3 b b1 b2 n) : b < 2 ^ (n.toNat + n.toNat) := by
  have h1 := h.b1l; have h2 := h.b2l
  have h3 : (b1 + 1) * 2 ^ n.toNat ≤ 2 ^ n.toNat * 2 ^ n.toNat := Int.mul_le_mul_of_nonneg_right (by omega) (Int.le_of_lt (pow2_pos _))
  rw [pow2_add, h.hb]
  rw [Int.add_mul] at h3
  omega
theorem D3pre.s_b1 (h : D3pre a12 a3 b b1 b2 n) : Sm b1 := by
  have := h.n2; have := h.b1p
  exact sm_nn (n := n.toNat) (by omega) h.b1l (by omega)
theorem D3pre.s_b2 (h : D3pre a12 a3 b b1 b2 n) : Sm b2 := by
  have := h.n2
  exact sm_nn (n := n.toNat) h.b20 h.b2l (by omega)
theorem D3pre.s_q1 (h : D3pre a12 a3 b b1 b2 n) : Sm (1 * 2 ^ n.toNat - 1) := by
  have := h.n2
  have := pow2_pos n.toNat
  exact sm_nn (n := n.toNat) (by omega) (by omega) (by omega)
theorem D3pre.s_r1 (h : D3pre a12 a3 b b1 b2 n) (hc : a12.fdiv (2 ^ n.toNat) = b1) : Sm (a12 - b1 * 2 ^ n.toNat + b1) := by
  have hn := h.n2
  have hp := pow2_pos n.toNat
  rw [fdiv_pos (Int.le_of_lt hp)] at hc
  have hm := Int.emod_nonneg a12 (show (2 : Int) ^ n.toNat ≠ 0 by omega)
  have hl := Int.emod_lt_of_pos a12 hp
  have hd := Int.emod_def a12 (2 ^ n.toNat)
  rw [hc, Int.mul_comm] at hd
  have h1 := h.b1l
  have h2 := h.b1p
  have h3 : (2 : Int) ^ (n.toNat + 1) = 2 ^ n.toNat * 2 := Int.pow_succ 2 n.toNat
  exact sm_nn (n := n.toNat + 1) (by omega) (by omega) (by omega)
theorem D3pre.s_q2 (h : D3pre a12 a3 b b1 b2 n) (hc : a12.fdiv (2 ^ n.toNat) ≠ b1) : Sm (a12 / b1) := by
  have hn := h.n2
  have h1 := (h.d2 hc).al
  have hb := h.b1p
  have h2 := (Int.ediv_lt_iff_lt_mul hb).mpr h1
  exact sm_nn (n := n.toNat) (Int.ediv_nonneg h.a0 (Int.le_of_lt hb)) h2 (by omega)
theorem D3pre.s_r2 (h : D3pre a12 a3 b b1 b2 n) : Sm (a12 % b1) := by
  have hn := h.n2
  have hb := h.b1p
  have h1 := Int.emod_nonneg a12 (show b1 ≠ 0 by omega)
  have h2 := Int.emod_lt_of_pos a12 hb
  have h3 := h.b1l
  exact sm_nn (n := n.toNat) h1 (by omega) (by omega)
theorem sm_one : Sm 1 := sm_nn (n := 1) (by decide) (by decide) (by decide)
end
end Mine
end
section
open PySem PySem.W PyProof.Rows
namespace Mine

theorem mask_one (x : Int) (k : Nat) : Builtin.bitAnd x (1 * 2 ^ k - 1) = x % 2 ^ k := by rw [Int.one_mul, kbt_mask]
theorem bit_one (x : Int) : Builtin.bitAnd x 1 = x % 2 := kbt_mask x 1
theorem toNat_one : (2 : Int) ^ Int.toNat 1 = 2 := rfl
section
variable {A B N M : Int}
structure Even2 (N h : Int) : Prop where
  e : N = 2 * h
theorem half_even (he : N % 2 = 0) : N = 2 * (N.fdiv (2 ^ Int.toNat 1)) := by
  rw [toNat_one, fdiv_pos (by decide)]; omega
theorem D2pre.bp (H : D2pre A B N) : 0 < B := by
  have := H.bg; have := pow2_pos N.toNat; omega
theorem D2pre.sa (H : D2pre A B N) : A < 2 ^ (N.toNat + N.toNat) := by
  have h1 := H.al
  have h2 : 2 ^ N.toNat * B ≤ 2 ^ N.toNat * 2 ^ N.toNat := Int.mul_le_mul_of_nonneg_left (Int.le_of_lt H.bl) (Int.le_of_lt (pow2_pos _))
  rw [pow2_add]; omega
theorem D2pre.s_a (H : D2pre A B N) : Sm A := by
  have := H.n2
  exact sm_nn H.a0 H.sa (by omega)
theorem D2pre.s_b (H : D2pre A B N) : Sm B := by
  have := H.n2; have := H.bp
  exact sm_nn (n := N.toNat) (by omega) H.bl (by omega)
theorem D2pre.nopy (H : D2pre A B N) (hc : (Builtin.Int.intBits A : Int) - N ≤ 4000) : B ≠ 0 ∧ Builtin.divisionGoesByPylong A B = false := by
  have hb := H.bp
  refine ⟨by omega, no_pylong (k := N.toNat - 1) ?_ ?_⟩
  · have h1 : A.natAbs < 2 ^ (Builtin.Int.intBits A) := by
      unfold Builtin.Int.intBits
      by_cases h0 : (A == 0) = true
      · have : A = 0 := eq_of_beq h0
        subst this; decide
      · rw [if_neg h0]
        exact Nat.lt_log2_self
    have hn := H.n1
    exact Nat.lt_of_lt_of_le h1 (Nat.pow_le_pow_right (by decide) (by omega))
  · have h1 := H.bg
    have hn := H.n1
    have h2 : N.toNat = (N.toNat - 1) + 1 := by omega
    have h3 : (2 : Int) ^ N.toNat = 2 ^ (N.toNat - 1) * 2 := by
      rw [h2, Int.pow_succ]; simp
    have h4 := cast_pow2 (N.toNat - 1)
    omega
theorem D2pre.deep (H : D2pre A B N) (hc : ¬ (Builtin.Int.intBits A : Int) - N ≤ 4000) : 4000 < N := by
  have h1 : A.natAbs < 2 ^ (N.toNat + N.toNat) := by
    have := H.sa; have := H.a0; have := cast_pow2 (N.toNat + N.toNat); omega
  have h2 := bits_le h1
  have := H.n1
  omega
theorem pow_half (he : N % 2 = 0) (h1 : 1 ≤ N) : (2 : Int) ^ N.toNat = 2 ^ (N.fdiv (2 ^ Int.toNat 1)).toNat * 2 ^ (N.fdiv (2 ^ Int.toNat 1)).toNat := by
  have h := half_even he
  have hp : 0 ≤ (N.fdiv (2 ^ Int.toNat 1)) := by omega
  rw [← pow2_add]
  congr 1
  omega
theorem D2pre.x1 (H : D2pre A B N) (he : N % 2 = 0) : ((A.fdiv (2 ^ N.toNat)) * 2 ^ (N.fdiv (2 ^ Int.toNat 1)).toNat + (Builtin.bitAnd (A.fdiv (2 ^ (N.fdiv (2 ^ Int.toNat 1)).toNat)) (1 * 2 ^ (N.fdiv (2 ^ Int.toNat 1)).toNat - 1))) = A / (2 ^ (N.fdiv (2 ^ Int.toNat 1)).toNat) := by
  have hp := pow2_pos ((N.fdiv (2 ^ Int.toNat 1))).toNat
  rw [mask_one, pow_half he H.n1, fdiv_pos (Int.le_of_lt (Int.mul_pos hp hp)), fdiv_pos (Int.le_of_lt hp)]
  have h1 : A / (2 ^ (N.fdiv (2 ^ Int.toNat 1)).toNat * 2 ^ (N.fdiv (2 ^ Int.toNat 1)).toNat) = A / (2 ^ (N.fdiv (2 ^ Int.toNat 1)).toNat) / (2 ^ (N.fdiv (2 ^ Int.toNat 1)).toNat) := (Int.ediv_ediv_of_nonneg (Int.le_of_lt hp)).symm
  rw [h1]
  have h2 := Int.emod_def (A / (2 ^ (N.fdiv (2 ^ Int.toNat 1)).toNat)) (2 ^ (N.fdiv (2 ^ Int.toNat 1)).toNat)
  rw [h2, Int.mul_comm]
  omega
theorem D2pre.pre1 (H : D2pre A B N) (he : N % 2 = 0) (hM : N ≤ 2 * M) : D3pre (A.fdiv (2 ^ N.toNat)) (Builtin.bitAnd (A.fdiv (2 ^ (N.fdiv (2 ^ Int.toNat 1)).toNat)) (1 * 2 ^ (N.fdiv (2 ^ Int.toNat 1)).toNat - 1)) B (B.fdiv (2 ^ (N.fdiv (2 ^ Int.toNat 1)).toNat)) (Builtin.bitAnd B (1 * 2 ^ (N.fdiv (2 ^ Int.toNat 1)).toNat - 1)) (N.fdiv (2 ^ Int.toNat 1)) ∧ (N.fdiv (2 ^ Int.toNat 1)) ≤ M := by
  have h := half_even he
  have n1 := H.n1
  have hp := pow2_pos ((N.fdiv (2 ^ Int.toNat 1))).toNat
  have hh := pow_half he H.n1
  have hbl := H.bl
  have hbg := H.bg
  have hal := H.al
  have n2 := H.n2
  rw [mask_one, mask_one]
  have e1 : (B.fdiv (2 ^ (N.fdiv (2 ^ Int.toNat 1)).toNat)) = B / (2 ^ (N.fdiv (2 ^ Int.toNat 1)).toNat) := fdiv_pos (Int.le_of_lt hp)
  have e2 : (A.fdiv (2 ^ N.toNat)) = A / (2 ^ N.toNat) := fdiv_pos (Int.le_of_lt (pow2_pos _))
  rw [e1, e2, fdiv_pos (a := A) (Int.le_of_lt hp)]
  have hd := Int.emod_def B (2 ^ (N.fdiv (2 ^ Int.toNat 1)).toNat)
  have hm0 := Int.emod_nonneg B (show (2 ^ (N.fdiv (2 ^ Int.toNat 1)).toNat : Int) ≠ 0 by omega)
  have hm1 := Int.emod_lt_of_pos B hp
  refine ⟨⟨by omega, by omega, ?_, hm0, hm1, ?_, ?_, ?_, ?_, ?_, ?_⟩, by omega⟩
  · rw [Int.mul_comm]; omega
  · exact (Int.ediv_lt_iff_lt_mul hp).mpr (by rw [← hh]; exact hbl)
  · have h3 : ((N.fdiv (2 ^ Int.toNat 1))).toNat = (((N.fdiv (2 ^ Int.toNat 1))).toNat - 1) + 1 := by omega
    have h4 : (2 ^ (N.fdiv (2 ^ Int.toNat 1)).toNat : Int) = 2 ^ (((N.fdiv (2 ^ Int.toNat 1))).toNat - 1) * 2 := by
      rw [h3, Int.pow_succ]; simp
    have h5 : (2 : Int) ^ (((N.fdiv (2 ^ Int.toNat 1))).toNat - 1) ≤ B / (2 ^ (N.fdiv (2 ^ Int.toNat 1)).toNat) := by
      refine (Int.le_ediv_iff_mul_le hp).mpr ?_
      rw [hh] at hbg
      have h6 : (2 ^ (N.fdiv (2 ^ Int.toNat 1)).toNat : Int) * 2 ^ (N.fdiv (2 ^ Int.toNat 1)).toNat = 2 * (2 ^ (((N.fdiv (2 ^ Int.toNat 1))).toNat - 1) * 2 ^ (N.fdiv (2 ^ Int.toNat 1)).toNat) := by
        rw [h4]; grind
      omega
    omega
  · exact Int.ediv_nonneg H.a0 (Int.le_of_lt (pow2_pos _))
  · exact (Int.ediv_lt_iff_lt_mul (pow2_pos _)).mpr (by rw [Int.mul_comm]; exact hal)
  · exact Int.emod_nonneg _ (by omega)
  · exact Int.emod_lt_of_pos _ hp
theorem D2pre.pre2 (H : D2pre A B N) (he : N % 2 = 0) (hM : N ≤ 2 * M) : D3pre (((A.fdiv (2 ^ N.toNat)) * 2 ^ (N.fdiv (2 ^ Int.toNat 1)).toNat + (Builtin.bitAnd (A.fdiv (2 ^ (N.fdiv (2 ^ Int.toNat 1)).toNat)) (1 * 2 ^ (N.fdiv (2 ^ Int.toNat 1)).toNat - 1))) % B) (Builtin.bitAnd A (1 * 2 ^ (N.fdiv (2 ^ Int.toNat 1)).toNat - 1)) B (B.fdiv (2 ^ (N.fdiv (2 ^ Int.toNat 1)).toNat)) (Builtin.bitAnd B (1 * 2 ^ (N.fdiv (2 ^ Int.toNat 1)).toNat - 1)) (N.fdiv (2 ^ Int.toNat 1)) ∧ (N.fdiv (2 ^ Int.toNat 1)) ≤ M := by
  obtain ⟨h1, h2⟩ := H.pre1 he hM
  have hp := pow2_pos ((N.fdiv (2 ^ Int.toNat 1))).toNat
  have hb := H.bp
  refine ⟨⟨h1.n1, h1.n2, h1.hb, h1.b20, h1.b2l, h1.b1l, h1.b1g, Int.emod_nonneg _ (by omega), Int.emod_lt_of_pos _ hb, ?_, ?_⟩, h2⟩
  · rw [mask_one]; exact Int.emod_nonneg _ (by omega)
  · rw [mask_one]; exact Int.emod_lt_of_pos _ hp
theorem D2pre.s_q (H : D2pre A B N) (he : N % 2 = 0) : Sm (((A.fdiv (2 ^ N.toNat)) * 2 ^ (N.fdiv (2 ^ Int.toNat 1)).toNat + (Builtin.bitAnd (A.fdiv (2 ^ (N.fdiv (2 ^ Int.toNat 1)).toNat)) (1 * 2 ^ (N.fdiv (2 ^ Int.toNat 1)).toNat - 1))) / B) := by
  rw [H.x1 he]
  have hp := pow2_pos ((N.fdiv (2 ^ Int.toNat 1))).toNat
  have hb := H.bp
  have n2 := H.n2
  have h1 : A / (2 ^ (N.fdiv (2 ^ Int.toNat 1)).toNat) ≤ A := Int.ediv_le_self _ H.a0
  have h0 : 0 ≤ A / (2 ^ (N.fdiv (2 ^ Int.toNat 1)).toNat) := Int.ediv_nonneg H.a0 (Int.le_of_lt hp)
  have h2 : A / (2 ^ (N.fdiv (2 ^ Int.toNat 1)).toNat) / B ≤ A / (2 ^ (N.fdiv (2 ^ Int.toNat 1)).toNat) := Int.ediv_le_self _ h0
  have h3 := H.sa
  exact sm_nn (Int.ediv_nonneg h0 (Int.le_of_lt hb)) (by omega) (show N.toNat + N.toNat ≤ 100000 by omega)
theorem D2pre.fin (H : D2pre A B N) (he : N % 2 = 0) : Builtin.bitOr ((((A.fdiv (2 ^ N.toNat)) * 2 ^ (N.fdiv (2 ^ Int.toNat 1)).toNat + (Builtin.bitAnd (A.fdiv (2 ^ (N.fdiv (2 ^ Int.toNat 1)).toNat)) (1 * 2 ^ (N.fdiv (2 ^ Int.toNat 1)).toNat - 1))) / B) * 2 ^ (N.fdiv (2 ^ Int.toNat 1)).toNat) (((((A.fdiv (2 ^ N.toNat)) * 2 ^ (N.fdiv (2 ^ Int.toNat 1)).toNat + (Builtin.bitAnd (A.fdiv (2 ^ (N.fdiv (2 ^ Int.toNat 1)).toNat)) (1 * 2 ^ (N.fdiv (2 ^ Int.toNat 1)).toNat - 1))) % B) * 2 ^ (N.fdiv (2 ^ Int.toNat 1)).toNat + (Builtin.bitAnd A (1 * 2 ^ (N.fdiv (2 ^ Int.toNat 1)).toNat - 1))) / B) = A / B ∧ (((((A.fdiv (2 ^ N.toNat)) * 2 ^ (N.fdiv (2 ^ Int.toNat 1)).toNat + (Builtin.bitAnd (A.fdiv (2 ^ (N.fdiv (2 ^ Int.toNat 1)).toNat)) (1 * 2 ^ (N.fdiv (2 ^ Int.toNat 1)).toNat - 1))) % B) * 2 ^ (N.fdiv (2 ^ Int.toNat 1)).toNat + (Builtin.bitAnd A (1 * 2 ^ (N.fdiv (2 ^ Int.toNat 1)).toNat - 1))) % B) = A % B := by
  have hp := pow2_pos ((N.fdiv (2 ^ Int.toNat 1))).toNat
  have hb := H.bp
  rw [H.x1 he, mask_one]
  have h0 : 0 ≤ A / (2 ^ (N.fdiv (2 ^ Int.toNat 1)).toNat) := Int.ediv_nonneg H.a0 (Int.le_of_lt hp)
  have hd := Int.emod_def A (2 ^ (N.fdiv (2 ^ Int.toNat 1)).toNat)
  have hm0 := Int.emod_nonneg A (show (2 ^ (N.fdiv (2 ^ Int.toNat 1)).toNat : Int) ≠ 0 by omega)
  have hm1 := Int.emod_lt_of_pos A hp
  have hr0 := Int.emod_nonneg (A / (2 ^ (N.fdiv (2 ^ Int.toNat 1)).toNat)) (show B ≠ 0 by omega)
  have hr1 := Int.emod_lt_of_pos (A / (2 ^ (N.fdiv (2 ^ Int.toNat 1)).toNat)) hb
  have hrd := Int.emod_def (A / (2 ^ (N.fdiv (2 ^ Int.toNat 1)).toNat)) B
  have hx0 : 0 ≤ A / (2 ^ (N.fdiv (2 ^ Int.toNat 1)).toNat) % B * 2 ^ (N.fdiv (2 ^ Int.toNat 1)).toNat + A % (2 ^ (N.fdiv (2 ^ Int.toNat 1)).toNat) := by
    have := Int.mul_nonneg hr0 (Int.le_of_lt hp); omega
  have hxl : A / (2 ^ (N.fdiv (2 ^ Int.toNat 1)).toNat) % B * 2 ^ (N.fdiv (2 ^ Int.toNat 1)).toNat + A % (2 ^ (N.fdiv (2 ^ Int.toNat 1)).toNat) < B * 2 ^ (N.fdiv (2 ^ Int.toNat 1)).toNat := by
    have : (A / (2 ^ (N.fdiv (2 ^ Int.toNat 1)).toNat) % B + 1) * 2 ^ (N.fdiv (2 ^ Int.toNat 1)).toNat ≤ B * 2 ^ (N.fdiv (2 ^ Int.toNat 1)).toNat := Int.mul_le_mul_of_nonneg_right (by omega) (Int.le_of_lt hp)
    rw [Int.add_mul] at this; omega
  have hq2 : (A / (2 ^ (N.fdiv (2 ^ Int.toNat 1)).toNat) % B * 2 ^ (N.fdiv (2 ^ Int.toNat 1)).toNat + A % (2 ^ (N.fdiv (2 ^ Int.toNat 1)).toNat)) / B < 2 ^ (N.fdiv (2 ^ Int.toNat 1)).toNat := (Int.ediv_lt_iff_lt_mul hb).mpr (by rw [Int.mul_comm (2 ^ (N.fdiv (2 ^ Int.toNat 1)).toNat) B]; exact hxl)
  have hq20 : 0 ≤ (A / (2 ^ (N.fdiv (2 ^ Int.toNat 1)).toNat) % B * 2 ^ (N.fdiv (2 ^ Int.toNat 1)).toNat + A % (2 ^ (N.fdiv (2 ^ Int.toNat 1)).toNat)) / B := Int.ediv_nonneg hx0 (Int.le_of_lt hb)
  rw [bitOr_shift (Int.ediv_nonneg h0 (Int.le_of_lt hb)) hq20 hq2]
  have hyd := Int.emod_def (A / (2 ^ (N.fdiv (2 ^ Int.toNat 1)).toNat) % B * 2 ^ (N.fdiv (2 ^ Int.toNat 1)).toNat + A % (2 ^ (N.fdiv (2 ^ Int.toNat 1)).toNat)) B
  have hy0 := Int.emod_nonneg (A / (2 ^ (N.fdiv (2 ^ Int.toNat 1)).toNat) % B * 2 ^ (N.fdiv (2 ^ Int.toNat 1)).toNat + A % (2 ^ (N.fdiv (2 ^ Int.toNat 1)).toNat)) (show B ≠ 0 by omega)
  have hy1 := Int.emod_lt_of_pos (A / (2 ^ (N.fdiv (2 ^ Int.toNat 1)).toNat) % B * 2 ^ (N.fdiv (2 ^ Int.toNat 1)).toNat + A % (2 ^ (N.fdiv (2 ^ Int.toNat 1)).toNat)) hb
  generalize (A / (2 ^ (N.fdiv (2 ^ Int.toNat 1)).toNat) % B * 2 ^ (N.fdiv (2 ^ Int.toNat 1)).toNat + A % (2 ^ (N.fdiv (2 ^ Int.toNat 1)).toNat)) % B = r2 at *
  generalize hg : (A / (2 ^ (N.fdiv (2 ^ Int.toNat 1)).toNat) % B * 2 ^ (N.fdiv (2 ^ Int.toNat 1)).toNat + A % (2 ^ (N.fdiv (2 ^ Int.toNat 1)).toNat)) / B = q2 at *
  have key := kbt_unique (a := A) (q := A / (2 ^ (N.fdiv (2 ^ Int.toNat 1)).toNat) / B * 2 ^ (N.fdiv (2 ^ Int.toNat 1)).toNat + q2) hb (r := r2) ?_ hy0 hy1
  · exact ⟨key.1.symm, key.2.symm⟩
  · rw [hrd] at hyd
    have e1 : A = 2 ^ (N.fdiv (2 ^ Int.toNat 1)).toNat * (A / (2 ^ (N.fdiv (2 ^ Int.toNat 1)).toNat)) + A % (2 ^ (N.fdiv (2 ^ Int.toNat 1)).toNat) := by omega
    rw [hyd]
    generalize A % (2 ^ (N.fdiv (2 ^ Int.toNat 1)).toNat) = m at *
    generalize A / (2 ^ (N.fdiv (2 ^ Int.toNat 1)).toNat) / B = q1 at *
    generalize A / (2 ^ (N.fdiv (2 ^ Int.toNat 1)).toNat) = y at *
    rw [e1]
    grind
/-- one bit more -/
theorem D2pre.pad {a b n : Int} (H : D2pre a b n) (hn : n + 1 ≤ 40000) : D2pre (a * 2 ^ Int.toNat 1) (b * 2 ^ Int.toNat 1) (n + 1) := by
  have h1 := H.n1
  have e : (n + 1).toNat = n.toNat + 1 := by omega
  have e2 : (2 : Int) ^ (n.toNat + 1) = 2 ^ n.toNat * 2 := Int.pow_succ 2 n.toNat
  have h2 := H.bl; have h3 := H.bg; have h4 := H.a0; have h5 := H.al
  rw [toNat_one]
  refine ⟨by omega, hn, by rw [e, e2]; omega, by rw [e, e2]; omega, by omega, ?_⟩
  rw [e, e2]
  have h6 : 2 ^ n.toNat * 2 * (b * 2) = 4 * (2 ^ n.toNat * b) := by grind
  omega
theorem pad_fin {a b : Int} (hb : 0 < b) : a * 2 ^ Int.toNat 1 / (b * 2 ^ Int.toNat 1) = a / b ∧ (a * 2 ^ Int.toNat 1 % (b * 2 ^ Int.toNat 1)).fdiv (2 ^ Int.toNat 1) = a % b := by
  rw [toNat_one, fdiv_pos (by decide)]
  have hd := Int.emod_def a b
  have h0 := Int.emod_nonneg a (show b ≠ 0 by omega)
  have h1 := Int.emod_lt_of_pos a hb
  have key := kbt_unique (a := a * 2) (b := b * 2) (q := a / b) (r := a % b * 2) (by omega) (by rw [hd]; grind) (by omega) (by omega)
  rw [key.1, key.2]
  exact ⟨rfl, by omega⟩
end
end Mine
end
section
open PySem PySem.W PyProof.Rows
set_option maxRecDepth 100000
namespace Mine
abbrev RetI (news : List (Addr × Obj)) (x : Int) (h₀ : Heap) (L : Addr) (m : Str → Option Value) (s : Shared) (Q : Value → Shared → Prop) : Prop :=
  ∀ (t : Tok) (h' : Heap) (tk' : Nat), Fr h₀ L h' m → News h₀ L h' news → Q (.int x t) { s with heap := h', toks := tk' }
abbrev tup2 (x : Int) (t : Tok) (y : Int) (u : Tok) : Obj := { cls := .type "tuple", data := .seq #[.int x t, .int y u] }
abbrev RetT (news : List (Addr × Obj)) (x y : Int) (h₀ : Heap) (L : Addr) (m : Str → Option Value) (s : Shared) (Q : Value → Shared → Prop) : Prop :=
  ∀ (p : Addr) (t u : Tok) (h' : Heap) (tk' : Nat), Fr h₀ L h' m → News h₀ L h' ((p, tup2 x t y u) :: news) → (∀ q ∈ news, q.1 < p) → Q (.ref p) { s with heap := h', toks := tk' }
abbrev Cl (w : World) (mean : ExcName → Option Value) (mg mb : Str → Option Value) (f : Addr) (sz : Nat) (news : List (Addr × Obj)) (vs : List Value)
   (Ret : Heap → Addr → (Str → Option Value) → Shared → (Value → Shared → Prop) → Prop) : Prop :=
  ∀ (dp un : Nat) (gd : Option (List Code)) (cn : Str) (cs : Scope) (a : Addr) (ccd : Value) (cl : List (Str × Addr)) (outer : List Env) (A₀ : Around) (base h₀ : Heap) (L : Addr) (m : Str → Option Value) (s : Shared) (Q E : Value → Shared → Prop),
    Below A₀ base outer h₀ → Fr h₀ L s.heap m → (hd.heap_39 w.params).In h₀ → News h₀ L s.heap news → Top hd.view_39 (looseW hd.view_39 []) mean mg mb h₀ → cs.kind = .function →
    dp + sz < recursionLimit → un + 8 * sz < cLine → Ret h₀ L m s Q →
      wpAny (model PySem.Challenge.rw_we0001_02.row.prog w) (ktrTop dp un gd cn cs L a ccd cl outer) (call (.ref f) vs) Q E s

local macro_rules | `(tactic| walk_at "binaryOp LShift int int") => `(tactic| (k_here; with_reducible refine r_lsh ?_ ?_))
local macro_rules | `(tactic| walk_at "inplaceOp LShift int int") => `(tactic| (k_here; with_reducible refine r_ilsh ?_ ?_))
local macro_rules | `(tactic| walk_at "binaryOp Mult int int") => `(tactic| (k_here; with_reducible refine r_mul ?_ ?_))
local macro_rules | `(tactic| walk_at "binaryOp FloorDiv int int") => `(tactic| (k_here; with_reducible refine r_fdiv ?_ ?_))
local macro_rules | `(tactic| walk_at "binaryOp Mod int int") => `(tactic| (k_here; with_reducible refine r_mod ?_ ?_))
local macro_rules | `(tactic| walk_at "binaryOp RShift int int") => `(tactic| (k_here; with_reducible refine r_rsh ?_ ?_))
local macro_rules | `(tactic| walk_at "inplaceOp RShift int int") => `(tactic| (k_here; with_reducible refine r_irsh ?_ ?_))
local macro_rules | `(tactic| walk_at "call ref") => `(tactic| (k_here; k_extra "mycall"))

set_option maxHeartbeats 8000000 in
theorem c_div3 (w : World) (mean : ExcName → Option Value) (mg mb : Str → Option Value) (sz : Nat)
   (M : Int) (IH : ∀ (news : List (Addr × Obj)) (a b n : Int) (t u v : Tok), Ob (D2pre a b n ∧ n ≤ M) → Cl w mean mg mb 56 sz news [.int a t, .int b u, .int n v] (RetT news (a / b) (a % b)))
   (news : List (Addr × Obj)) (a12 a3 b b1 b2 n : Int) (t1 t2 t3 t4 t5 t6 : Tok) (H : Ob (D3pre a12 a3 b b1 b2 n ∧ n ≤ M)) :
   Cl w mean mg mb 63 (sz + 1) news [.int a12 t1, .int a3 t2, .int b t3, .int b1 t4, .int b2 t5, .int n t6]  (RetT news ((a12 * 2 ^ n.toNat + a3) / b) ((a12 * 2 ^ n.toNat + a3) % b)) := by
  unfold Cl; k_fill
  intro dp un gd cn cs a9 ccd cl outer A₀ base h₀ L m s Q E B F X N T hk hdp hun hret
  obtain ⟨H, hM⟩ := H
  k_with_none
  k_with "mycall" => (
    refine' IH _ _ _ _ _ _ _ ?_ _ _ _ _ _ _ _ _ _ _ _ _ _ _ _ _ _ ?k1 ?k2 ?k3 ?k4 ?k5 ?kK ?kd ?ku ?_
    (case k1 => k_asm); (case k2 => k_asm); (case k3 => k_asm); (case k4 => k_asm); (case k5 => k_asm); (case kK => exact rfl); (case kd => cb_room); (case ku => cb_units)
    rotate_left
    intro p9 t9 u9 h9 tk9 F9 N9 l9; (try k_lt l9))
  k_with "exec While Compare cons nil" => k_while (fun _ q r => q * b + r = a12 * 2 ^ n.toNat + a3 ∧ r < b) (fun _ q r => (-r).toNat) "q" "r"
  have hbp := D3pre.bp H
  k_with "state" => first | exact d3_turn (by assumption) (by assumption) (by assumption) | exact D3pre.start2 H | exact D3pre.start1 H (by assumption)
  refine wpAny_call ?_
  k_dflt cell_enter
  k_steps
  all_goals first
    | exact (⟨Int.le_trans (by decide) H.n1, by have := D3pre.n2 H; omega, sm_one⟩ : 0 ≤ n ∧ n ≤ 100000 ∧ Sm 1)
    | exact (⟨Int.le_trans (by decide) H.n1, by have := D3pre.n2 H; omega, H.s_b1⟩ : 0 ≤ n ∧ n ≤ 100000 ∧ Sm b1)
    | exact (⟨Int.le_trans (by decide) H.n1, by have := D3pre.n2 H; omega, H.s_r2⟩ : 0 ≤ n ∧ n ≤ 100000 ∧ Sm (a12 % b1))
    | exact (⟨Int.le_trans (by decide) H.n1, by have := D3pre.n2 H; omega, H.s_r1 (by assumption)⟩ : 0 ≤ n ∧ n ≤ 100000 ∧ Sm (a12 - b1 * 2 ^ n.toNat + b1))
    | exact (Int.le_trans (by decide) H.n1 : (0 : Int) ≤ n)
    | exact (⟨H.s_q1, H.s_b2⟩ : Sm (1 * 2 ^ n.toNat - 1) ∧ Sm b2)
    | exact (⟨H.s_q2 (by assumption), H.s_b2⟩ : Sm (a12 / b1) ∧ Sm b2)
    | exact (⟨H.d2 (by assumption), hM⟩ : D2pre a12 b1 n ∧ n ≤ M)
    | skip
  all_goals (
    obtain ⟨e1, e2⟩ := D3pre.done H ⟨by assumption, by assumption⟩ (by assumption)
    rw [RetT, e1, e2] at hret
    refine' hret _ _ _ _ _ ?e1 (cb_drop ?e2 ?e3) ?e4
    (case e1 => k_asm); (case e2 => k_asm); (case e3 => kcj_all); (case e4 => exact ktn_ltOf (And.right (by assumption))))
end Mine
end
section
open PySem PySem.W PyProof.Rows
set_option maxRecDepth 100000
namespace Mine
local macro_rules | `(tactic| walk_at "binaryOp LShift int int") => `(tactic| (k_here; with_reducible refine r_lsh ?_ ?_))
local macro_rules | `(tactic| walk_at "inplaceOp LShift int int") => `(tactic| (k_here; with_reducible refine r_ilsh ?_ ?_))
local macro_rules | `(tactic| walk_at "binaryOp Mult int int") => `(tactic| (k_here; with_reducible refine r_mul ?_ ?_))
local macro_rules | `(tactic| walk_at "binaryOp FloorDiv int int") => `(tactic| (k_here; with_reducible refine r_fdiv ?_ ?_))
local macro_rules | `(tactic| walk_at "binaryOp Mod int int") => `(tactic| (k_here; with_reducible refine r_mod ?_ ?_))
local macro_rules | `(tactic| walk_at "binaryOp RShift int int") => `(tactic| (k_here; with_reducible refine r_rsh ?_ ?_))
local macro_rules | `(tactic| walk_at "inplaceOp RShift int int") => `(tactic| (k_here; with_reducible refine r_irsh ?_ ?_))
local macro_rules | `(tactic| walk_at "call builtin:divmod") => `(tactic| (k_here; k_dflt (refine' r_divmod ?k1 ?k2 ?_ ?_; (case k1 => k_asm); (case k2 => k_asm)); intro p9 h9 F9 N9 l9; (try k_lt l9)))
local macro_rules | `(tactic| walk_at "call ref") => `(tactic| (k_here; k_extra "mycall"))


set_option maxHeartbeats 8000000 in
theorem c_div2s (w : World) (mean : ExcName → Option Value) (mg mb : Str → Option Value) (sz : Nat)
   (M : Int) (IH : ∀ (news : List (Addr × Obj)) (a b n : Int) (t u v : Tok), Ob (D2pre a b n ∧ n ≤ M) → Cl w mean mg mb 56 sz news [.int a t, .int b u, .int n v] (RetT news (a / b) (a % b)))
   (news : List (Addr × Obj)) (a b n : Int) (t1 t2 t3 : Tok) (H : Ob (D2pre a b n)) (hM : 4000 < (Builtin.Int.intBits a : Int) - n → n + 1 ≤ 2 * M) :
   Cl w mean mg mb 56 (sz + 2) news [.int a t1, .int b t2, .int n t3]  (RetT news (a / b) (a % b)) := by
  unfold Cl; k_fill
  intro dp un gd cn cs a9 ccd cl outer A₀ base h₀ L m s Q E B F X N T hk hdp hun hret
  have hbp := D2pre.bp H
  have hn1 := D2pre.n1 H
  have hn2 := D2pre.n2 H
  have Ho : Builtin.bitAnd n 1 ≠ 0 → (n + 1) % 2 = 0 := fun h => by rw [bit_one] at h; omega
  have He : Builtin.bitAnd n 1 = 0 → n % 2 = 0 := fun h => by rw [bit_one] at h; omega
  have Hp : Builtin.bitAnd n 1 ≠ 0 → D2pre (a * 2 ^ Int.toNat 1) (b * 2 ^ Int.toNat 1) (n + 1) := fun h => D2pre.pad H (by rw [bit_one] at h; omega)
  have H1 : Builtin.bitAnd n 1 ≠ 0 → 0 ≤ (n + 1).fdiv (2 ^ Int.toNat 1) := fun h => by rw [toNat_one, fdiv_pos (by decide)]; omega
  have H2 : Builtin.bitAnd n 1 = 0 → 0 ≤ n.fdiv (2 ^ Int.toNat 1) := fun h => by rw [toNat_one, fdiv_pos (by decide)]; omega
  have H3 : Builtin.bitAnd n 1 ≠ 0 → 0 ≤ n + 1 := fun h => by omega
  have H4 : Builtin.bitAnd n 1 = 0 → 0 ≤ n := fun h => by omega
  have H5 : Builtin.bitAnd n 1 ≠ 0 → (n + 1).fdiv (2 ^ Int.toNat 1) ≤ 100000 := fun h => by rw [toNat_one, fdiv_pos (by decide)]; omega
  have H6 : Builtin.bitAnd n 1 = 0 → n.fdiv (2 ^ Int.toNat 1) ≤ 100000 := fun h => by rw [toNat_one, fdiv_pos (by decide)]; omega
  k_with_none
  k_with "mycall" => (
    refine' c_div3 _ _ _ _ _ M IH _ _ _ _ _ _ _ _ _ _ _ _ _ ?_ _ _ _ _ _ _ _ _ _ _ _ _ _ _ _ _ _ ?k1 ?k2 ?k3 ?k4 ?k5 ?kK ?kd ?ku ?_
    (case k1 => k_asm); (case k2 => k_asm); (case k3 => k_asm); (case k4 => k_asm); (case k5 => k_asm); (case kK => exact rfl); (case kd => cb_room); (case ku => cb_units)
    rotate_left
    intro p9 t9 u9 h9 tk9 F9 N9 l9; (try k_lt l9))
  refine wpAny_call ?_
  k_dflt cell_enter
  k_steps
  all_goals first
    | exact absurd (by assumption) (by assumption : ¬ Builtin.bitAnd n 1 = 0)
    | exact (by decide : (0 : Int) ≤ 1)
    | exact H.nopy (by assumption)
    | exact H1 (by assumption)
    | exact H2 (by assumption)
    | exact H3 (by assumption)
    | exact H4 (by assumption)
    | exact (⟨by decide, by decide, H.s_a⟩ : (0 : Int) ≤ 1 ∧ (1 : Int) ≤ 100000 ∧ Sm a)
    | exact (⟨by decide, by decide, H.s_b⟩ : (0 : Int) ≤ 1 ∧ (1 : Int) ≤ 100000 ∧ Sm b)
    | exact ((Hp (by assumption)).pre1 (Ho (by assumption)) (hM (by omega)))
    | exact ((Hp (by assumption)).pre2 (Ho (by assumption)) (hM (by omega)))
    | exact (⟨H1 (by assumption), H5 (by assumption), (Hp (by assumption)).s_q (Ho (by assumption))⟩)
    | exact (⟨H1 (by assumption), H5 (by assumption), sm_one⟩)
    | exact (H.pre1 (He (by assumption)) (by have := hM (by omega); omega))
    | exact (H.pre2 (He (by assumption)) (by have := hM (by omega); omega))
    | exact (⟨H2 (by assumption), H6 (by assumption), H.s_q (He (by assumption))⟩)
    | exact (⟨H2 (by assumption), H6 (by assumption), sm_one⟩)
    | skip
  · rw [RetT, ← fdiv_pos (a := a) (b := b) (Int.le_of_lt hbp), ← fmod_pos (a := a) (b := b) (Int.le_of_lt hbp)] at hret
    refine' hret _ _ _ _ _ ?e1 (cb_drop ?e2 ?e3) ?e4
    (case e1 => k_asm); (case e2 => k_asm); (case e3 => kcj_all); (case e4 => first | assumption | exact ktn_ltOf (And.right (by assumption)) | exact ktn_ltOf (And.right (And.right (by assumption))) | exact ktn_ltOf (And.right (And.right (And.right (by assumption)))))
  · have e := (Hp (by assumption)).fin (Ho (by assumption))
    have e' := pad_fin (a := a) (b := b) hbp
    rw [RetT, ← e'.1, ← e'.2, ← e.1, ← e.2] at hret
    refine' hret _ _ _ _ _ ?e1 (cb_drop ?e2 ?e3) ?e4
    (case e1 => k_asm); (case e2 => k_asm); (case e3 => kcj_all); (case e4 => first | assumption | exact ktn_ltOf (And.right (by assumption)) | exact ktn_ltOf (And.right (And.right (by assumption))) | exact ktn_ltOf (And.right (And.right (And.right (by assumption)))))
  · have e := H.fin (He (by assumption))
    rw [RetT, ← e.1, ← e.2] at hret
    refine' hret _ _ _ _ _ ?e1 (cb_drop ?e2 ?e3) ?e4
    (case e1 => k_asm); (case e2 => k_asm); (case e3 => kcj_all); (case e4 => first | assumption | exact ktn_ltOf (And.right (by assumption)) | exact ktn_ltOf (And.right (And.right (by assumption))) | exact ktn_ltOf (And.right (And.right (And.right (by assumption)))))
end Mine
end
section
open PySem PySem.W PyProof.Rows
namespace Mine
/-- what _law_divide is called with -/
structure DivPre (top bottom common : Int) : Prop where
  t0 : 0 ≤ top
  b0 : 0 < bottom
  c0 : 0 < common
  tl : top < common * bottom
  bl : bottom < 2 ^ 4300
  cl : common < 2 ^ 20000
section
variable {top bottom common : Int}
theorem bits_spec {x : Int} (hx : 0 < x) : x < 2 ^ Builtin.Int.intBits x ∧ 2 ^ Builtin.Int.intBits x ≤ 2 * x := by
  have hne : (x == 0) = false := by
    have : x ≠ 0 := by omega
    simpa using this
  unfold Builtin.Int.intBits
  rw [hne]
  simp only [Bool.false_eq_true, if_false]
  have h0 : x.natAbs ≠ 0 := by omega
  have h1 : x.natAbs < 2 ^ (x.natAbs.log2 + 1) := Nat.lt_log2_self
  have h2 : 2 ^ x.natAbs.log2 ≤ x.natAbs := Nat.log2_self_le h0
  have h3 := cast_pow2 (x.natAbs.log2 + 1)
  have h4 := cast_pow2 (x.natAbs.log2)
  have h5 : (2 : Int) ^ (x.natAbs.log2 + 1) = 2 ^ x.natAbs.log2 * 2 := Int.pow_succ 2 _
  omega
theorem lt_mul_pow {x y : Int} {i j : Nat} (hx : x < 2 ^ i) (hy : y < 2 ^ j) (hy0 : 0 ≤ y) : x * y < 2 ^ (i + j) := by
  rw [pow2_add]
  have h1 : x * y ≤ 2 ^ i * y := Int.mul_le_mul_of_nonneg_right (Int.le_of_lt hx) hy0
  have h2 : 2 ^ i * y < 2 ^ i * 2 ^ j := Int.mul_lt_mul_of_pos_left hy (pow2_pos i)
  omega
theorem DivPre.pos (H : DivPre top bottom common) : 0 < bottom * common := Int.mul_pos H.b0 H.c0
theorem DivPre.bsz (H : DivPre top bottom common) : bottom * common < 2 ^ 24300 := lt_mul_pow (i := 4300) (j := 20000) H.bl H.cl (Int.le_of_lt H.c0)
theorem DivPre.s_b (H : DivPre top bottom common) : Sm bottom := sm_nn (Int.le_of_lt H.b0) H.bl (by decide)
theorem DivPre.s_c (H : DivPre top bottom common) : Sm common := sm_nn (Int.le_of_lt H.c0) H.cl (by decide)
theorem DivPre.s_t (H : DivPre top bottom common) : Sm top := by
  have h1 := H.bsz
  have h2 := H.tl
  rw [Int.mul_comm] at h2
  exact sm_nn (n := 24300) H.t0 (Int.lt_trans h2 h1) (by decide)
theorem DivPre.d2 (H : DivPre top bottom common) : D2pre (top * common) (bottom * common) (Builtin.Int.intBits (bottom * common)) := by
  have hp := H.pos
  obtain ⟨h1, h2⟩ := bits_spec hp
  have h3 : (Builtin.Int.intBits (bottom * common)) ≤ 24300 := by
    refine bits_le ?_
    have := H.bsz
    have := cast_pow2 24300
    omega
  have hb := H.b0
  refine ⟨?_, by omega, by rw [Int.toNat_natCast]; exact h1, by rw [Int.toNat_natCast]; exact h2, Int.mul_nonneg H.t0 (Int.le_of_lt H.c0), ?_⟩
  · have : Builtin.Int.intBits (bottom * common) ≠ 0 := by
      intro h0; rw [h0] at h1; simp at h1; omega
    omega
  · rw [Int.toNat_natCast]
    have h4 : top * common < common * bottom * common := Int.mul_lt_mul_of_pos_right H.tl H.c0
    have h5 : common ≤ bottom * common := by
      have : 1 * common ≤ bottom * common := Int.mul_le_mul_of_nonneg_right (by omega) (Int.le_of_lt H.c0)
      omega
    have h6 : common * (bottom * common) ≤ 2 ^ Builtin.Int.intBits (bottom * common) * (bottom * common) := Int.mul_le_mul_of_nonneg_right (by omega) (Int.le_of_lt hp)
    rw [Int.mul_assoc] at h4
    omega
theorem DivPre.quo (H : DivPre top bottom common) : top * common / (bottom * common) = top / bottom := Int.mul_ediv_mul_of_pos_left _ _ H.c0
theorem DivPre.rem (H : DivPre top bottom common) : top * common % (bottom * common) = top % bottom * common := by
  rw [Int.mul_comm top, Int.mul_comm bottom, Int.mul_emod_mul_of_pos _ _ H.c0, Int.mul_comm]
theorem DivPre.m0 (H : DivPre top bottom common) : (top * common % (bottom * common)).fmod common = 0 := by
  rw [H.rem, fmod_pos (Int.le_of_lt H.c0)]; exact Int.mul_emod_left _ _
theorem DivPre.c1 (H : DivPre top bottom common) : common ≠ 0 := by have := H.c0; omega
theorem DivPre.fin (H : DivPre top bottom common) : (top * common % (bottom * common)).fdiv common = top % bottom := by
  rw [H.rem, fdiv_pos (Int.le_of_lt H.c0)]; exact Int.mul_ediv_cancel _ H.c1
theorem DivPre.nopy (H : DivPre top bottom common) : common ≠ 0 ∧ Builtin.divisionGoesByPylong (top * common % (bottom * common)) common = false := by
  refine ⟨H.c1, no_pylong (k := Builtin.Int.intBits common - 1) ?_ ?_⟩
  · obtain ⟨h1, h2⟩ := bits_spec H.c0
    have h3 : 0 ≤ top % bottom := Int.emod_nonneg _ (by have := H.b0; omega)
    have h4 : top % bottom < 2 ^ 4300 := Int.lt_trans (Int.emod_lt_of_pos _ H.b0) H.bl
    have h5 : top % bottom * common < 2 ^ (4300 + Builtin.Int.intBits common) := lt_mul_pow h4 h1 (Int.le_of_lt H.c0)
    have h6 : 0 ≤ top % bottom * common := Int.mul_nonneg h3 (Int.le_of_lt H.c0)
    rw [H.rem]
    have h7 : 4300 + Builtin.Int.intBits common ≤ Builtin.Int.intBits common - 1 + 4400 := by omega
    have h8 := Nat.pow_le_pow_right (n := 2) (by decide) h7
    have h9 := cast_pow2 (4300 + Builtin.Int.intBits common)
    omega
  · obtain ⟨h1, h2⟩ := bits_spec H.c0
    have h0 : Builtin.Int.intBits common ≠ 0 := by
      intro h0; rw [h0] at h1; have := H.c0; simp at h1; omega
    have h3 : Builtin.Int.intBits common = (Builtin.Int.intBits common - 1) + 1 := by omega
    have h4 : (2 : Int) ^ Builtin.Int.intBits common = 2 ^ (Builtin.Int.intBits common - 1) * 2 := by
      rw [h3, Int.pow_succ]; simp
    have h5 := cast_pow2 (Builtin.Int.intBits common - 1)
    have := H.c0
    omega
end
theorem D2pre.top {a b n : Int} (H : D2pre a b n) (M : Int) (hm : n ≤ 2 * M) : 4000 < (Builtin.Int.intBits a : Int) - n → n + 1 ≤ 2 * (M + 1) := fun _ => by omega
end Mine
end
section
open PySem PySem.W PyProof.Rows
set_option maxRecDepth 100000
namespace Mine
local macro_rules | `(tactic| walk_at "binaryOp LShift int int") => `(tactic| (k_here; with_reducible refine r_lsh ?_ ?_))
local macro_rules | `(tactic| walk_at "inplaceOp LShift int int") => `(tactic| (k_here; with_reducible refine r_ilsh ?_ ?_))
local macro_rules | `(tactic| walk_at "binaryOp Mult int int") => `(tactic| (k_here; with_reducible refine r_mul ?_ ?_))
local macro_rules | `(tactic| walk_at "binaryOp FloorDiv int int") => `(tactic| (k_here; with_reducible refine r_fdiv ?_ ?_))
local macro_rules | `(tactic| walk_at "binaryOp Mod int int") => `(tactic| (k_here; with_reducible refine r_mod ?_ ?_))
local macro_rules | `(tactic| walk_at "binaryOp RShift int int") => `(tactic| (k_here; with_reducible refine r_rsh ?_ ?_))
local macro_rules | `(tactic| walk_at "inplaceOp RShift int int") => `(tactic| (k_here; with_reducible refine r_irsh ?_ ?_))
local macro_rules | `(tactic| walk_at "call builtin:divmod") => `(tactic| (k_here; k_dflt (refine' r_divmod ?k1 ?k2 ?_ ?_; (case k1 => k_asm); (case k2 => k_asm)); intro p9 h9 F9 N9 l9; (try k_lt l9)))
local macro_rules | `(tactic| walk_at "call builtin:list.append") => `(tactic| (k_here; k_dflt (refine' r_append ?k1 ?k2 ?k3 ?_ ?_; (case k1 => k_asm); (case k2 => k_asm); (case k3 => k_upd)); intro h' F' N'; (try k_sweep)))
local macro_rules | `(tactic| walk_at "call ref") => `(tactic| (k_here; k_extra "mycall"))

theorem c_div2k (w : World) (mean : ExcName → Option Value) (mg mb : Str → Option Value) : ∀ (k : Nat)
   (news : List (Addr × Obj)) (a b n : Int) (t1 t2 t3 : Tok), Ob (D2pre a b n ∧ n ≤ 3999 * 2 ^ k + 1) →
   Cl w mean mg mb 56 (2 * k + 2) news [.int a t1, .int b t2, .int n t3]  (RetT news (a / b) (a % b))
  | 0, news, a, b, n, t1, t2, t3, H => c_div2s w mean mg mb 0 0 (fun _ a b n _ _ _ h => absurd h.1.n1 (by have := h.2; omega)) news a b n t1 t2 t3 H.1
      (fun h => by have h1 := H.2; have h2 := H.1.deep (by omega); rw [Int.pow_zero] at h1; omega)
  | k + 1, news, a, b, n, t1, t2, t3, H => c_div2s w mean mg mb (2 * k + 2) (3999 * 2 ^ k + 1) (fun news a b n t u v h => c_div2k w mean mg mb k news a b n t u v h) news a b n t1 t2 t3 H.1
      (fun _ => by have h1 := H.2; rw [Int.pow_succ] at h1; omega)
theorem c_div2 (w : World) (mean : ExcName → Option Value) (mg mb : Str → Option Value)
   (news : List (Addr × Obj)) (a b n : Int) (t1 t2 t3 : Tok) (H : Ob (D2pre a b n)) :
   Cl w mean mg mb 56 10 news [.int a t1, .int b t2, .int n t3]  (RetT news (a / b) (a % b)) :=
  c_div2k w mean mg mb 4 news a b n t1 t2 t3 ⟨H, by have := H.n2; omega⟩
set_option maxHeartbeats 8000000 in
theorem c_isub (w : World) (mean : ExcName → Option Value) (mg mb : Str → Option Value) (news : List (Addr × Obj)) (x y : Int) (t u : Tok) :
   Cl w mean mg mb 42 1 news [.int x t, .int y u] (RetI news (x - y)) := by
  unfold Cl; k_fill
  intro dp un gd cn cs a9 ccd cl outer A₀ base h₀ L m s Q E hB hF hX hN hTop hk hdp hun hret
  k_with_none
  refine wpAny_call ?_
  k_dflt cell_enter
  k_steps
  all_goals (refine' hret _ _ _ ?e1 (cb_drop ?e2 ?e3); (case e1 => k_asm); (case e2 => k_asm); (case e3 => kcj_all))
set_option maxHeartbeats 8000000 in
theorem c_iadd (w : World) (mean : ExcName → Option Value) (mg mb : Str → Option Value) (news : List (Addr × Obj)) (x y : Int) (t u : Tok) :
   Cl w mean mg mb 21 1 news [.int x t, .int y u] (RetI news (x + y)) := by
  unfold Cl; k_fill
  intro dp un gd cn cs a9 ccd cl outer A₀ base h₀ L m s Q E hB hF hX hN hTop hk hdp hun hret
  k_with_none
  refine wpAny_call ?_
  k_dflt cell_enter
  k_steps
  all_goals (refine' hret _ _ _ ?e1 (cb_drop ?e2 ?e3); (case e1 => k_asm); (case e2 => k_asm); (case e3 => kcj_all))
set_option maxHeartbeats 8000000 in
theorem c_iand (w : World) (mean : ExcName → Option Value) (mg mb : Str → Option Value) (news : List (Addr × Obj)) (x y : Int) (t u : Tok) :
   Cl w mean mg mb 28 1 news [.int x t, .int y u] (RetI news (Builtin.bitAnd x y)) := by
  unfold Cl; k_fill
  intro dp un gd cn cs a9 ccd cl outer A₀ base h₀ L m s Q E hB hF hX hN hTop hk hdp hun hret
  k_with_none
  refine wpAny_call ?_
  k_dflt cell_enter
  k_steps
  all_goals (refine' hret _ _ _ ?e1 (cb_drop ?e2 ?e3); (case e1 => k_asm); (case e2 => k_asm); (case e3 => kcj_all))
set_option maxHeartbeats 8000000 in
theorem c_ixor (w : World) (mean : ExcName → Option Value) (mg mb : Str → Option Value) (news : List (Addr × Obj)) (x y : Int) (t u : Tok) :
   Cl w mean mg mb 49 1 news [.int x t, .int y u] (RetI news (Builtin.bitXor x y)) := by
  unfold Cl; k_fill
  intro dp un gd cn cs a9 ccd cl outer A₀ base h₀ L m s Q E hB hF hX hN hTop hk hdp hun hret
  k_with_none
  refine wpAny_call ?_
  k_dflt cell_enter
  k_steps
  all_goals (refine' hret _ _ _ ?e1 (cb_drop ?e2 ?e3); (case e1 => k_asm); (case e2 => k_asm); (case e3 => kcj_all))
set_option maxHeartbeats 8000000 in
theorem c_ilshift (w : World) (mean : ExcName → Option Value) (mg mb : Str → Option Value) (news : List (Addr × Obj)) (x y : Int) (t u : Tok) (H : Ob (0 ≤ y ∧ y ≤ 100000 ∧ Sm x)) :
   Cl w mean mg mb 35 1 news [.int x t, .int y u] (RetI news (x * 2 ^ y.toNat)) := by
  unfold Cl; k_fill
  intro dp un gd cn cs a9 ccd cl outer A₀ base h₀ L m s Q E hB hF hX hN hTop hk hdp hun hret
  k_with_none
  refine wpAny_call ?_
  k_dflt cell_enter
  k_steps
  all_goals first | exact H | (refine' hret _ _ _ ?e1 (cb_drop ?e2 ?e3); (case e1 => k_asm); (case e2 => k_asm); (case e3 => kcj_all))
set_option maxHeartbeats 8000000 in
theorem c_divide (w : World) (mean : ExcName → Option Value) (mg mb : Str → Option Value) (news : List (Addr × Obj)) (top bottom common : Int) (t u v : Tok) (H : Ob (DivPre top bottom common)) :
   Cl w mean mg mb 70 11 news [.int top t, .int bottom u, .int common v] (RetT news (top / bottom) (top % bottom)) := by
  unfold Cl; k_fill
  intro dp un gd cn cs a9 ccd cl outer A₀ base h₀ L m s Q E hB hF hX hN hTop hk hdp hun hret
  k_with_none
  k_with "mycall" => (refine' c_div2 _ _ _ _ _ _ _ _ _ _ _ ?_ _ _ _ _ _ _ _ _ _ _ _ _ _ _ _ _ _ ?k1 ?k2 ?k3 ?k4 ?k5 ?kK ?kd ?ku ?_; (case k1 => k_asm); (case k2 => k_asm); (case k3 => k_asm); (case k4 => k_asm); (case k5 => k_asm); (case kK => exact rfl); (case kd => cb_room); (case ku => cb_units); rotate_left; intro p9 t9 u9 h9 tk9 F9 N9 l9; (try k_lt l9))
  refine wpAny_call ?_
  k_dflt cell_enter
  k_steps
  all_goals first
    | exact H.nopy
    | exact H.c1
    | exact H.d2
    | exact (⟨H.s_t, H.s_c⟩ : Sm top ∧ Sm common)
    | exact (⟨H.s_b, H.s_c⟩ : Sm bottom ∧ Sm common)
    | exact absurd H.m0 (by assumption)
    | (rw [RetT, ← H.quo, ← H.fin] at hret; (refine' hret _ _ _ _ _ ?e1 (cb_drop ?e2 ?e3) ?e4; (case e1 => k_asm); (case e2 => k_asm); (case e3 => kcj_all); (case e4 => first | assumption | exact ktn_ltOf (And.right (by assumption)) | exact ktn_ltOf (And.right (And.right (by assumption))) | exact ktn_ltOf (And.right (And.right (And.right (by assumption)))))))
end Mine
end
section
open PySem PySem.W PyProof.Rows PySem.Calls PyProof.V PySem.Spec
namespace Mine
abbrev Led := List (Addr × Obj)
section
variable {prog : Program} {w : World} {A : Around} {E : Value → Shared → Prop} {s : Shared} {env : Env} {h₀ : Heap} {x : Str} {body : List Stmt} {Q : Flow → Shared → Prop}

/-- the end of a turn: the iterator stands, the letters are c' -/
def LpEnd {σ : Type} (h₀ : Heap) (L : Addr) (G : σ → Led) (R : Led) (ps : σ → List (Str × Value)) (x : Str) (stored : List Str) (m₀ : Str → Option Value) (P : σ → Prop) (I : Addr) (it : Obj) (s₁ s₂ : Shared) : Prop :=
  ∃ (c' : σ) (h' : Heap) (tk : Nat) (m' : Str → Option Value) (news' : Led), s₂ = { s₁ with heap := h', toks := tk } ∧ Fr h₀ L h' m' ∧ News h₀ L h' news' ∧ (∀ p ∈ G c' ++ R, p ∈ news') ∧ (I, it) ∈ news' ∧ (∀ p ∈ G c', p.2.cls ≠ it.cls) ∧
    (∀ p ∈ ps c', m' p.1 = some p.2) ∧ (∀ z, z ≠ x → (∀ p ∈ ps c', z ≠ p.1) → stored.contains z = false → m' z = m₀ z) ∧ P c'
def LpPost {σ : Type} (h₀ : Heap) (L : Addr) (G : σ → Led) (R : Led) (ps : σ → List (Str × Value)) (x : Str) (stored : List Str) (m₀ : Str → Option Value) (P : σ → Prop) (I : Addr) (it : Obj) (s₁ : Shared) (Q : Flow → Shared → Prop) (f : Flow) (s₂ : Shared) : Prop :=
  match f with
  | .ret v => Q (.ret v) s₂
  | .brk => Q .next s₂
  | _ => LpEnd h₀ L G R ps x stored m₀ P I it s₁ s₂
/-- the frame that a turn meets -/
abbrev lpM {σ : Type} (ps : σ → List (Str × Value)) (stored : List Str) (u m₀ : Str → Option Value) (c : σ) : Str → Option Value := kstB (fun z => if stored.contains z then u z else m₀ z) (ps c)

theorem lp_walk {σ : Type} {I : Addr} {fp : List Addr} {n : Nat} {Pv : Nat → Value → Prop} {St : Nat → Heap → Prop} {m₀ : Str → Option Value} {ic : Value}
    (G : σ → Led) (R : Led) (ps : σ → List (Str × Value)) (stored : List Str) (P : Nat → σ → Prop) (c₀ : σ)
    (W : Walks prog w A I fp [I] n Pv St) (hLf : env.locals ∉ fp) (hIf : I ∈ fp) (hI : h₀.get? I = none) (hst : St 0 s.heap)
    (hSt : ∀ i h, St i h → ∃ it, h.get? I = some it ∧ it.cls = ic)
    (hown : ∀ (h : Heap) (p : Addr × Obj), p.1 ∈ fp → News h₀ env.locals h [p] → News h₀ env.locals h R → p.1 = I ∨ p ∈ R)
    (F : Fr h₀ env.locals s.heap m₀) (N : News h₀ env.locals s.heap (G c₀ ++ R)) (hnI : ∀ p ∈ G c₀ ++ R, p.1 ≠ I) (hk : ∀ p ∈ ps c₀, m₀ p.1 = some p.2) (hp : P 0 c₀)
    (turn : ∀ (c : σ) (i : Nat) v (u : Str → Option Value) (it : Obj) h tk, i < n → Pv i v → (∀ p ∈ G c ++ R, p.1 ≠ I) → it.cls = ic → P i c →
      Fr h₀ env.locals h (fun y => if y = x then some v else lpM ps stored u m₀ c y) → News h₀ env.locals h ((I, it) :: (G c ++ R)) →
      wpAny (model prog w) A (execs body env) (LpPost h₀ env.locals G R ps x stored m₀ (P (i + 1)) I it { s with heap := h, toks := tk } Q) E { s with heap := h, toks := tk })
    (done : ∀ (c : σ) (u : Str → Option Value) h tk, P n c → Fr h₀ env.locals h (fun y => if y = x then u y else lpM ps stored u m₀ c y) → News h₀ env.locals h (G c ++ R) → Q .next { s with heap := h, toks := tk }) :
    LoopAtV prog w A h₀ env x body Q E (.ref I) s := by
  let J : Nat → (Str → Option Value) → Led → Prop := fun i m nx => ∃ c : σ, nx = G c ++ R ∧ (∀ p ∈ nx, p.1 ≠ I) ∧ (∀ p ∈ ps c, m p.1 = some p.2) ∧ (∀ z, z ≠ x → (∀ p ∈ ps c, z ≠ p.1) → stored.contains z = false → m z = m₀ z) ∧ P i c
  refine ⟨I, fp, [I], n, Pv, St, m₀, G c₀ ++ R, J, rfl, W, hLf, ?_, ?_, hst, F, N, ⟨c₀, rfl, hnI, hk, fun _ _ _ _ => rfl, hp⟩, ?_, ?_⟩
  · intro b hb
    rw [List.mem_singleton.mp hb]; exact hI
  · intro p hp h
    exact hnI p hp (List.mem_singleton.mp h)
  · rintro i v m₁ nx s₁ own ⟨h, tk, rfl⟩ hin hP ⟨c, rfl, hne, h1, h2, hpc⟩ _ hof hget hmem hst₁ F₁ N₁
    obtain ⟨it, hit, hcls⟩ := hSt _ _ hst₁
    have hIown : (I, it) ∈ own := hmem I hIf hI it hit
    have N₂ : News h₀ env.locals h ((I, it) :: (G c ++ R)) := fun p hp => by
      rcases List.mem_cons.mp hp with rfl | hp
      · exact N₁ _ (List.mem_append_left _ hIown)
      · exact N₁ _ (List.mem_append_right _ hp)
    refine wpAny_mono (turn c i v m₁ it h tk hin hP hne hcls hpc (kst_fr h1 h2 F₁) N₂) (fun f s₂ p => ?_) fun _ _ e => e
    have fin : LpEnd h₀ env.locals G R ps x stored m₀ (P (i + 1)) I it { s with heap := h, toks := tk } s₂ → LoopStepU h₀ env.locals [I] own (J (i + 1)) { s with heap := h, toks := tk } .next s₂ := by
      rintro ⟨c', h', tk', m', news', e, F', N', hn, hitn, hc, hk', hr', hP'⟩
      have hitg := (N' _ hitn).1
      have hne' : ∀ p ∈ G c' ++ R, p.1 ≠ I := fun p hp e => by
        rcases List.mem_append.mp hp with hp' | hp'
        · have := (N' p (hn p hp)).1
          rw [e, hitg] at this
          exact hc p hp' (by rw [← Option.some.inj this])
        · exact hne p (List.mem_append_right _ hp') e
      refine ⟨rfl, h', tk', m', G c' ++ R, e, F', fun p hp => ?_, fun p hp h => hne' p hp (List.mem_singleton.mp h), c', rfl, hne', hk', hr', hP'⟩
      rcases List.mem_append.mp hp with hp | hp
      · rcases hown h p (hof p hp) (fun q hq => by rw [List.mem_singleton.mp hq]; exact N₁ p (List.mem_append_left _ hp)) (fun q hq => N₁ q (List.mem_append_right _ (List.mem_append_right _ hq))) with e1 | e1
        · have e2 := hget p hp
          rw [e1, hit] at e2
          have e3 : p = (I, it) := Prod.ext e1 (Option.some.inj e2).symm
          rw [e3]; exact N' _ hitn
        · exact N' _ (hn _ (List.mem_append_right _ e1))
      · exact N' _ (hn _ hp)
    cases f with
    | ret v => exact .ret p
    | brk => exact .brk p
    | next => exact .next (fin p)
    | cont => exact .cont (fin p)
  · rintro h' tk m' news' F' N' _ ⟨c, rfl, _, h1, h2, hpc⟩
    exact done c m' h' tk hpc (kst_frOut h1 h2 F') N'

theorem lp_range {σ : Type} {r : Addr} {a₀ b₀ : Int} {t₀ u₀ v₀ : Tok} {n : Nat} {m₀ : Str → Option Value}
    (G : σ → Led) (R : Led) (ps : σ → List (Str × Value)) (stored : List Str) (P : Nat → σ → Prop) (c₀ : σ)
    (hh : A.handled = none) (hr : IsRange s.heap r a₀ b₀ 1 t₀ u₀ v₀) (hsmall : Builtin.Range.small a₀ b₀ 1 = true) (hn : Builtin.Range.rangeSize a₀ b₀ 1 = (n : Int)) (F : Fr h₀ env.locals s.heap m₀) (N : News h₀ env.locals s.heap (G c₀ ++ R)) (hk : ∀ p ∈ ps c₀, m₀ p.1 = some p.2) (hp : P 0 c₀)
    (turn : ∀ (c : σ) (i : Nat) t (u : Str → Option Value) (I : Addr) (it : Obj) h tk, i < n → (∀ p ∈ G c ++ R, p.1 ≠ I) → it.cls = .type "range_iterator" → P i c →
      Fr h₀ env.locals h (fun y => if y = x then some (.int (a₀ + (i : Int)) t) else lpM ps stored u m₀ c y) → News h₀ env.locals h ((I, it) :: (G c ++ R)) →
      wpAny (model prog w) A (execs body env) (LpPost h₀ env.locals G R ps x stored m₀ (P (i + 1)) I it { s with heap := h, toks := tk } Q) E { s with heap := h, toks := tk })
    (done : ∀ (c : σ) (u : Str → Option Value) h tk, P n c → Fr h₀ env.locals h (fun y => if y = x then u y else lpM ps stored u m₀ c y) → News h₀ env.locals h (G c ++ R) → Q .next { s with heap := h, toks := tk }) :
    wpAny (model prog w) A (pyIter (.ref r)) (fun it s₂ => LoopAtV prog w A h₀ env x body Q E it s₂) E s := by
  refine wpAny_pyIter_range hr hsmall ?_
  have W : Walks prog w A s.heap.objs.size [s.heap.objs.size] [s.heap.objs.size] n (fun i v => i < n ∧ ∃ t, v = .int (a₀ + i * 1) t)
      (fun i h => IsRangeIter h s.heap.objs.size (a₀ + (i : Nat) * 1) ((n : Int) - (i : Nat)) 1) := (Walks.range hh _ a₀ 1 n).bound
  refine lp_walk (ic := .type "range_iterator") G R ps stored P c₀ W ?_ (.head _) (next_is_new F) (by show IsRangeIter _ _ _ _ _; rw [hn]; simpa using Heap.get?_push_size _ rfl) ?_ ?_ (F.push _)
    (fun p hp => ⟨Heap.get?_push_of_some _ (N p hp).1, (N p hp).2⟩) ?_ hk hp ?_ ?_
  · intro hm
    exact absurd F.ns.lt ((List.mem_singleton.mp hm) ▸ Nat.lt_irrefl _)
  · intro i h st
    exact ⟨_, st, rfl⟩
  · intro h p hp _ _
    exact .inl (List.mem_singleton.mp hp)
  · intro p hp e
    exact absurd (Heap.lt_size (N p hp).1) (e ▸ Nat.lt_irrefl _)
  · rintro c i v u it h tk hi ⟨_, t, rfl⟩ hne hc hP F' N'
    have e1 : a₀ + (i : Int) * 1 = a₀ + (i : Int) := by omega
    rw [e1] at F'
    exact turn c i t u _ it h tk hi hne hc hP F' N'
  · intro c u h tk hP F' N'
    exact done c u h tk hP F' N'

/-- over a list of the ledger -/
theorem lp_listL {σ : Type} {l : Addr} {vs : List Value} {nn : Nat} {m₀ : Str → Option Value}
    (G : σ → Led) (R : Led) (ps : σ → List (Str × Value)) (stored : List Str) (P : Nat → σ → Prop) (c₀ : σ)
    (hh : A.handled = none) (hl : (l, listOf vs.toArray nn) ∈ R) (F : Fr h₀ env.locals s.heap m₀) (N : News h₀ env.locals s.heap (G c₀ ++ R)) (hk : ∀ p ∈ ps c₀, m₀ p.1 = some p.2) (hp : P 0 c₀)
    (turn : ∀ (c : σ) (i : Nat) v (u : Str → Option Value) (I : Addr) (it : Obj) h tk, i < vs.length → vs[i]? = some v → (∀ p ∈ G c ++ R, p.1 ≠ I) → it.cls = .type "list_iterator" → P i c →
      Fr h₀ env.locals h (fun y => if y = x then some v else lpM ps stored u m₀ c y) → News h₀ env.locals h ((I, it) :: (G c ++ R)) →
      wpAny (model prog w) A (execs body env) (LpPost h₀ env.locals G R ps x stored m₀ (P (i + 1)) I it { s with heap := h, toks := tk } Q) E { s with heap := h, toks := tk })
    (done : ∀ (c : σ) (u : Str → Option Value) h tk, P vs.length c → Fr h₀ env.locals h (fun y => if y = x then u y else lpM ps stored u m₀ c y) → News h₀ env.locals h (G c ++ R) → Q .next { s with heap := h, toks := tk }) :
    wpAny (model prog w) A (pyIter (.ref l)) (fun it s₂ => LoopAtV prog w A h₀ env x body Q E it s₂) E s := by
  have hol : s.heap.get? l = some (listOf vs.toArray nn) := (N _ (List.mem_append_right _ hl)).1
  have hls : s.heap.IsList l vs.toArray := ⟨_, hol, rfl, nn, rfl⟩
  have hne : l ≠ s.heap.objs.size := Nat.ne_of_lt (Heap.lt_size hol)
  refine wpAny_pyIter_list hls ?_
  have W := Walks.list (prog := prog) (w := w) hh s.heap.objs.size l hne vs.toArray
  have hlen : vs.toArray.size = vs.length := by simp
  rw [hlen] at W
  refine lp_walk (ic := .type "list_iterator") G R ps stored P c₀ W ?_ (.head _) (next_is_new F) ⟨⟨_, Heap.get?_push_size _ rfl, rfl, rfl⟩, hls.at fun o e => Heap.get?_push_of_some _ e⟩ ?_ ?_ (F.push _)
    (fun p hp => ⟨Heap.get?_push_of_some _ (N p hp).1, (N p hp).2⟩) ?_ hk hp ?_ ?_
  · intro hm
    rcases List.mem_cons.mp hm with e | hm
    · exact absurd F.ns.lt (e ▸ Nat.lt_irrefl _)
    · exact (N _ (List.mem_append_right _ hl)).2.1 ((List.mem_singleton.mp hm).symm)
  · rintro i h ⟨⟨o, ho, hc, _⟩, _⟩
    exact ⟨o, ho, hc⟩
  · intro h p hp N1 N2
    rcases List.mem_cons.mp hp with e | hp
    · exact .inl e
    · right
      have e1 := List.mem_singleton.mp hp
      have e2 := (N1 p (List.mem_singleton.mpr rfl)).1
      have e3 := (N2 _ hl).1
      rw [e1, e3] at e2
      have e4 : p = (l, listOf vs.toArray nn) := Prod.ext e1 (Option.some.inj e2).symm
      rw [e4]; exact hl
  · intro p hp e
    exact absurd (Heap.lt_size (N p hp).1) (e ▸ Nat.lt_irrefl _)
  · rintro c i v u it h tk hi hv hne' hc hP F' N'
    exact turn c i v u _ it h tk hi (by simpa using hv) hne' hc hP F' N'
  · intro c u h tk hP F' N'
    exact done c u h tk hP F' N'
end
end Mine
namespace Mine
section
variable {σ : Type} {h₀ h' : Heap} {L : Addr} {G : σ → Led} {R : Led} {ps : σ → List (Str × Value)} {x : Str} {stored : List Str} {m₀ m' : Str → Option Value} {P : σ → Prop} {I : Addr} {it : Obj} {s₁ : Shared} {tk : Nat} {news' : Led}
theorem LpEnd.intro (c' : σ) (F : Fr h₀ L h' m') (N : News h₀ L h' news') (hn : ∀ p ∈ G c' ++ R, p ∈ news') (hit : (I, it) ∈ news') (hc : ∀ p ∈ G c', p.2.cls ≠ it.cls)
    (hk : ∀ p ∈ ps c', m' p.1 = some p.2) (hr : ∀ z, z ≠ x → (∀ p ∈ ps c', z ≠ p.1) → stored.contains z = false → m' z = m₀ z) (hp : P c') : LpEnd h₀ L G R ps x stored m₀ P I it s₁ { s₁ with heap := h', toks := tk } :=
  ⟨c', h', tk, m', news', rfl, F, N, hn, hit, hc, hk, hr, hp⟩
end
section
variable {prog : Program} {w : World} {A : Around} {E : Value → Shared → Prop} {s : Shared} {h₀ : Heap} {L D : Addr} {m : Str → Option Value} {nw nw' : Led}
theorem r_append {its : Array Value} {n : Nat} {x : Value} {Q : Value → Shared → Prop} (F : Fr h₀ L s.heap m) (N : News h₀ L s.heap nw) (U : Upd D (listOf its n) (listOf (its.push x) (n + 1)) nw nw')
    (h : ∀ h', Fr h₀ L h' m → News h₀ L h' nw' → Q .none { s with heap := h' }) (hsz : Ob (its.size ≤ 16777216)) : wpAny (model prog w) A (call (.builtin "list.append") [.ref D, x]) Q E s :=
  append_K F N U h (by rw [sizeLine_eq]; exact hsz)
end
theorem ne_cls {o it : Obj} {a b : String} (h1 : o.cls = .type a) (h2 : it.cls = .type b) (h : a ≠ b) : o.cls ≠ it.cls := by
  rw [h1, h2]; intro e; exact h (Value.type.inj e)
/-- the numbers of _law_masks -/
structure CmPre (c : Nat) (common : Int) : Prop where
  c1 : 1 ≤ c
  c13 : c ≤ 13
  lo : 2 ^ (2 ^ c) ≤ common
  hi : common < 2 ^ 20000
def maskI (c k : Nat) : Int := (2 ^ (2 ^ c) - 1) / (2 ^ (2 ^ k) + 1)
theorem tn_zero (i : Nat) : (0 + (i : Int)).toNat = i := by omega
theorem tn_pow (i : Nat) : ((2 : Int) ^ i).toNat = 2 ^ i := by have := cast_pow2 i; have := pow2_pos i; omega
/-- 2 ^ (2 ^ k) + 1 divides 2 ^ (2 ^ (k + d + 1)) - 1 -/
theorem fermat_dvd (k : Nat) : ∀ d : Nat, ∃ q : Int, (2 : Int) ^ (2 ^ (k + d + 1)) - 1 = q * (2 ^ (2 ^ k) + 1)
  | 0 => ⟨2 ^ (2 ^ k) - 1, by
      have e : 2 ^ (k + 0 + 1) = 2 ^ k + 2 ^ k := by rw [Nat.add_zero, Nat.pow_succ]; omega
      rw [e, pow2_add]; grind⟩
  | d + 1 => by
      obtain ⟨q, hq⟩ := fermat_dvd k d
      refine ⟨q * (2 ^ (2 ^ (k + d + 1)) + 1), ?_⟩
      have e : 2 ^ (k + (d + 1) + 1) = 2 ^ (k + d + 1) + 2 ^ (k + d + 1) := by
        rw [show k + (d + 1) + 1 = (k + d + 1) + 1 by omega, Nat.pow_succ]; omega
      rw [e, pow2_add]
      have h2 : (2 : Int) ^ (2 ^ (k + d + 1)) * 2 ^ (2 ^ (k + d + 1)) - 1 = (2 ^ (2 ^ (k + d + 1)) - 1) * (2 ^ (2 ^ (k + d + 1)) + 1) := by grind
      rw [h2, hq]; grind
theorem mask_exact {c k : Nat} (h : k < c) : maskI c k * (2 ^ (2 ^ k) + 1) = 2 ^ (2 ^ c) - 1 ∧ ((2 : Int) ^ (2 ^ c) - 1) % (2 ^ (2 ^ k) + 1) = 0 := by
  obtain ⟨q, hq⟩ := fermat_dvd k (c - k - 1)
  rw [show k + (c - k - 1) + 1 = c by omega] at hq
  have hp : (0 : Int) < 2 ^ (2 ^ k) + 1 := by have := pow2_pos (2 ^ k); omega
  unfold maskI
  rw [hq, Int.mul_ediv_cancel _ (by omega)]
  exact ⟨rfl, Int.mul_emod_left _ _⟩
section
variable {c i : Nat} {common : Int}
theorem CmPre.full (_H : CmPre c common) : (1 : Int) * 2 ^ ((2 : Int) ^ ((c : Nat) : Int).toNat).toNat - 1 = 2 ^ (2 ^ c) - 1 := by
  rw [Int.toNat_natCast, tn_pow, Int.one_mul]
theorem bot_eq (i : Nat) : (1 : Int) * 2 ^ ((2 : Int) ^ (0 + (i : Int)).toNat).toNat + 1 = 2 ^ (2 ^ i) + 1 := by
  rw [tn_zero, tn_pow, Int.one_mul]
theorem two_le {i c : Nat} (h : i ≤ c) : 2 ^ i ≤ 2 ^ c := Nat.pow_le_pow_right (by decide) h
theorem CmPre.div (H : CmPre c common) (hi : i < c) : DivPre (1 * 2 ^ ((2 : Int) ^ ((c : Nat) : Int).toNat).toNat - 1) (1 * 2 ^ ((2 : Int) ^ (0 + (i : Int)).toNat).toNat + 1) common := by
  rw [H.full, bot_eq]
  have h1 := H.lo
  have h2 := pow2_pos (2 ^ c)
  have h3 := pow2_pos (2 ^ i)
  have h13 := H.c13
  have h4 : 2 ^ i ≤ 4096 := two_le (c := 12) (by omega)
  have h5 : (2 : Int) ^ (2 ^ i) ≤ 2 ^ 4096 := pow2_le h4
  have h6 : (2 : Int) ^ 4096 + 1 < 2 ^ 4300 := by decide +kernel
  refine ⟨by omega, by omega, by omega, ?_, by omega, H.hi⟩
  have h7 : common * 1 ≤ common * (2 ^ (2 ^ i) + 1) := Int.mul_le_mul_of_nonneg_left (by omega) (by omega)
  omega
theorem CmPre.val (H : CmPre c common) (_hi : i < c) : (1 * 2 ^ ((2 : Int) ^ ((c : Nat) : Int).toNat).toNat - 1) / (1 * 2 ^ ((2 : Int) ^ (0 + (i : Int)).toNat).toNat + 1) = maskI c i := by
  rw [H.full, bot_eq]; rfl
theorem CmPre.rest (H : CmPre c common) (hi : i < c) : ((1 : Int) * 2 ^ ((2 : Int) ^ ((c : Nat) : Int).toNat).toNat - 1) % (1 * 2 ^ ((2 : Int) ^ (0 + (i : Int)).toNat).toNat + 1) = 0 := by
  rw [H.full, bot_eq]; exact (mask_exact hi).2
theorem CmPre.sh (H : CmPre c common) : (0 : Int) ≤ 2 ^ ((c : Nat) : Int).toNat ∧ (2 : Int) ^ ((c : Nat) : Int).toNat ≤ 100000 ∧ Sm 1 := by
  have h13 := H.c13
  rw [Int.toNat_natCast]
  have h4 : (2 : Int) ^ c ≤ 2 ^ 13 := pow2_le h13
  have := pow2_pos c
  exact ⟨by omega, by omega, sm_one⟩
theorem CmPre.shi (H : CmPre c common) (hi : i < c) : (0 : Int) ≤ 2 ^ (0 + (i : Int)).toNat ∧ (2 : Int) ^ (0 + (i : Int)).toNat ≤ 100000 ∧ Sm 1 := by
  have h13 := H.c13
  rw [tn_zero]
  have h4 : (2 : Int) ^ i ≤ 2 ^ 13 := pow2_le (by omega)
  have := pow2_pos i
  exact ⟨by omega, by omega, sm_one⟩
theorem masks_len {vs : List Value} (h : IntsAre vs ((List.range i).map (maskI c))) : vs.length = i := by
  rw [h.length, List.length_map, List.length_range]
theorem ints_snoc {vs : List Value} {f : Nat → Int} {q : Int} {t : Tok} (h : IntsAre vs ((List.range i).map f)) (hq : q = f i) : IntsAre (vs ++ [.int q t]) ((List.range (i + 1)).map f) := by
  rw [List.range_succ, List.map_append]
  subst hq
  exact IntsAre.append h (.cons _ _ .nil)
theorem tn_sub (c : Nat) : ((c : Int) - 0).toNat = c := by omega
end
end Mine
end
section
open PySem PySem.W PyProof.Rows
namespace Mine
/-! the plain numbers of the first law -/
def fullN (c : Nat) : Nat := 2 ^ (2 ^ c) - 1
def maskN (c k : Nat) : Nat := fullN c / (2 ^ (2 ^ k) + 1)
theorem maskI_cast (c k : Nat) : maskI c k = ((maskN c k : Nat) : Int) := by
  unfold maskI maskN fullN
  have h1 := Nat.two_pow_pos (2 ^ c)
  rw [Int.natCast_ediv, Int.natCast_add, cast_pow2, Int.natCast_sub h1, cast_pow2]; rfl
theorem maskN_le (c k : Nat) : maskN c k ≤ fullN c := Nat.div_le_self _ _
theorem bxor_nat (a b : Nat) : Builtin.bitXor (a : Int) (b : Int) = ((a ^^^ b : Nat) : Int) := by
  rw [bitXor_and, bitAnd_pp (Int.natCast_nonneg a) (Int.natCast_nonneg b), Int.toNat_natCast, Int.toNat_natCast]
  have h1 := nat_or_add_and a b
  have h2 : (a ^^^ b) + (a &&& b) = (a ||| b) := by
    have e : a ||| b = (a ^^^ b) ||| (a &&& b) := by
      apply Nat.eq_of_testBit_eq; intro i
      simp only [Nat.testBit_or, Nat.testBit_xor, Nat.testBit_and]
      cases a.testBit i <;> cases b.testBit i <;> rfl
    have e2 : (a ^^^ b) &&& (a &&& b) = 0 := by
      apply Nat.eq_of_testBit_eq; intro i
      simp only [Nat.testBit_xor, Nat.testBit_and, Nat.zero_testBit]
      cases a.testBit i <;> cases b.testBit i <;> rfl
    have h3 := nat_or_add_and (a ^^^ b) (a &&& b)
    rw [← e, e2] at h3
    omega
  omega
theorem band_nat (a b : Nat) : Builtin.bitAnd (a : Int) (b : Int) = ((a &&& b : Nat) : Int) := by
  rw [bitAnd_pp (Int.natCast_nonneg a) (Int.natCast_nonneg b), Int.toNat_natCast, Int.toNat_natCast]
theorem mul_pow_nat (a k : Nat) : (a : Int) * 2 ^ k = ((a * 2 ^ k : Nat) : Int) := by rw [Int.natCast_mul, cast_pow2]
theorem fdiv_pow_nat (a k : Nat) : (a : Int).fdiv (2 ^ k) = ((a / 2 ^ k : Nat) : Int) := by
  rw [fdiv_pos (Int.le_of_lt (pow2_pos k)), Int.natCast_ediv, cast_pow2]
theorem tn_pow0 (i : Nat) : ((2 : Int) ^ (0 + (i : Int)).toNat).toNat = 2 ^ i := by rw [tn_zero, tn_pow]
theorem sm_nat {x n : Nat} (h : x < 2 ^ n) (hn : n ≤ 100000) : Sm (x : Int) := sm_of_lt (n := n) (by rw [Int.natAbs_natCast]; exact h) hn

/-! the turned table -/
def turnN (c T : Nat) : Nat → Nat
  | 0 => T
  | i + 1 => turnN c T i ^^^ ((turnN c T i &&& maskN c i) * 2 ^ (2 ^ i))
/-- a list read at a place -/
theorem getD_map_range {c i : Nat} {f : Nat → Int} (h : i < c) : ((List.range c).map f).getD (0 + (i : Int)).toNat 0 = f i := by
  rw [tn_zero]; simp [h]
theorem turn_step {c T i : Nat} {v : Int} (hi : i < c) (hv : v = ((turnN c T i : Nat) : Int)) :
    Builtin.bitXor v (Builtin.bitAnd v (((List.range c).map (maskI c)).getD (0 + (i : Int)).toNat 0) * 2 ^ ((2 : Int) ^ (0 + (i : Int)).toNat).toNat) = ((turnN c T (i + 1) : Nat) : Int) := by
  rw [getD_map_range hi, tn_pow0, maskI_cast, hv, band_nat, mul_pow_nat, bxor_nat]; rfl
end Mine
namespace Mine
theorem fullN_lt (c : Nat) : fullN c < 2 ^ (2 ^ c) := by unfold fullN; have := Nat.two_pow_pos (2 ^ c); omega
theorem size_le {c : Nat} (h : c ≤ 13) : 2 ^ c ≤ 8192 := Nat.pow_le_pow_right (n := 2) (by decide) h
theorem turn_ob {c T i : Nat} {v : Int} (h13 : c ≤ 13) (hi : i < c) (hv : v = ((turnN c T i : Nat) : Int)) :
    (0 : Int) ≤ 2 ^ (0 + (i : Int)).toNat ∧ (2 : Int) ^ (0 + (i : Int)).toNat ≤ 100000 ∧ Sm (Builtin.bitAnd v (((List.range c).map (maskI c)).getD (0 + (i : Int)).toNat 0)) := by
  rw [getD_map_range hi, maskI_cast, hv, band_nat, tn_zero]
  have h4 : (2 : Int) ^ i ≤ 2 ^ 13 := pow2_le (by omega)
  have := pow2_pos i
  refine ⟨by omega, by omega, sm_nat (n := 2 ^ c) ?_ (by have := size_le h13; omega)⟩
  exact Nat.lt_of_le_of_lt (Nat.le_trans Nat.and_le_right (maskN_le c i)) (fullN_lt c)
theorem item_ob {c i : Nat} {f : Nat → Int} (hi : i < c) : 0 ≤ 0 + (i : Int) ∧ (0 + (i : Int)).toNat < ((List.range c).map f).length := by
  rw [List.length_map, List.length_range]; omega
section
variable {prog : Program} {w : World} {A : Around} {E : Value → Shared → Prop} {s : Shared} {h₀ : Heap} {L l : Addr} {m : Str → Option Value} {nw : Led}
theorem ints_at : ∀ {vs : List Value} {ns : List Int}, IntsAre vs ns → ∀ i, i < ns.length → ∃ t, vs[i]? = some (.int (ns.getD i 0) t)
  | _, _, .cons n t _, 0, _ => ⟨t, rfl⟩
  | _, _, .cons n t r, i + 1, h => by
    obtain ⟨t', e⟩ := ints_at r i (by simpa using h)
    exact ⟨t', by simpa using e⟩
theorem r_item {value slice : PySem.Expr} {vs : List Value} {ns : List Int} {kk : Nat} {k : Int} {u : Tok} {Q : Value → Shared → Prop} (N : News h₀ L s.heap nw) (hm : (l, listOf vs.toArray kk) ∈ nw) (hi : IntsAre vs ns)
    (h : ∀ t, Q (.int (ns.getD k.toNat 0) t) s) (ho : Ob (0 ≤ k ∧ k.toNat < ns.length)) (hz : Ob (k < 2 ^ 63))
    (hs : subscripted slice false (.ref l) (.int k u) = operate [.ref l, .int k u] (getItem (.ref l) (.int k u)) := by with_unfolding_all rfl) :
    wpAny (model prog w) A (subscriptTail value slice (.ref l) (.int k u)) Q E s := by
  obtain ⟨t, e⟩ := ints_at hi _ ho.2
  have hl : s.heap.IsList l vs.toArray := ⟨_, (N _ hm).1, rfl, kk, rfl⟩
  exact tail_any hl.typeIs slot_list_getitem.lookup (wpAny_getItem_list hl ho.1 hz (by simpa using e) (h t)) hs
theorem r_len {vs : List Value} {kk : Nat} {Q : Value → Shared → Prop} (N : News h₀ L s.heap nw) (hm : (l, listOf vs.toArray kk) ∈ nw)
    (h : Q (.int (vs.length : Int) (s.toks + 1)) { s with toks := s.toks + 1 + 1 }) (hz : Ob ((vs.length : Int) < 2 ^ 63)) : wpAny (model prog w) A (call (.builtin "len") [.ref l]) Q E s :=
  kst_len N hm rfl hz h
end
end Mine
namespace Mine
/-! the table -/
def partN (c one : Nat) : Nat → Nat
  | 0 => fullN c
  | k + 1 => if one.testBit k then partN c one k &&& (fullN c ^^^ maskN c k) else partN c one k
def tableN (c : Nat) (xs : List Nat) : Nat := xs.foldl (fun t one => t ^^^ partN c one c) 0
theorem tableN_snoc (c : Nat) (xs : List Nat) (x : Nat) : tableN c (xs ++ [x]) = tableN c xs ^^^ partN c x c := by
  unfold tableN; rw [List.foldl_append]; rfl
/-- a bit as the program asks for it -/
theorem bit_ask (x k : Nat) : Builtin.bitAnd ((x : Int).fdiv (2 ^ k)) 1 = if x.testBit k then 1 else 0 := by
  rw [fdiv_pow_nat, bit_one, Nat.testBit_eq_decide_div_mod_eq]
  by_cases h : x / 2 ^ k % 2 = 1
  · simp only [h, decide_true, if_true]; omega
  · simp only [h, decide_false, Bool.false_eq_true, if_false]; omega
theorem part_yes {c one i : Nat} {v : Int} (hi : i < c) (hv : v = ((partN c one i : Nat) : Int)) (hb : Builtin.bitAnd ((one : Int).fdiv (2 ^ (0 + (i : Int)).toNat)) 1 = 1) :
    Builtin.bitAnd v (Builtin.bitXor ((fullN c : Nat) : Int) (((List.range c).map (maskI c)).getD (0 + (i : Int)).toNat 0)) = ((partN c one (i + 1) : Nat) : Int) := by
  rw [tn_zero, bit_ask] at hb
  have h1 : one.testBit i = true := by
    cases h : one.testBit i with
    | true => rfl
    | false => rw [h] at hb; simp at hb
  rw [getD_map_range hi, maskI_cast, hv, bxor_nat, band_nat]
  simp only [partN, h1, if_true]
theorem part_no {c one i : Nat} {v : Int} (hv : v = ((partN c one i : Nat) : Int)) (hb : Builtin.bitAnd ((one : Int).fdiv (2 ^ (0 + (i : Int)).toNat)) 1 ≠ 1) :
    v = ((partN c one (i + 1) : Nat) : Int) := by
  rw [tn_zero, bit_ask] at hb
  have h1 : one.testBit i = false := by
    cases h : one.testBit i with
    | false => rfl
    | true => rw [h] at hb; simp at hb
  simp only [partN, h1, Bool.false_eq_true, if_false]
  exact hv
theorem nat_at {vs : List Value} {xs : List Nat} {i : Nat} {v : Value} (hc : IntsAre vs (xs.map fun (x : Nat) => (x : Int))) (hv : vs[i]? = some v) (hi : i < vs.length) : ∃ t, v = .int ((xs.getD i 0 : Nat) : Int) t := by
  have hl : vs.length = xs.length := by rw [hc.length, List.length_map]
  obtain ⟨t, e⟩ := ints_at hc i (by rw [List.length_map]; omega)
  rw [hv] at e
  refine ⟨t, ?_⟩
  rw [Option.some.inj e]
  congr 1
  simp [List.getD_eq_getElem?_getD, (by omega : i < xs.length)]
theorem take_snoc {α : Type} (xs : List α) (d : α) {i : Nat} (h : i < xs.length) : xs.take (i + 1) = xs.take i ++ [xs.getD i d] := by
  rw [List.take_add_one]
  simp [List.getD_eq_getElem?_getD, h]
theorem table_step {c i : Nat} {xs : List Nat} {v u : Int} (hi : i < xs.length) (hv : v = ((tableN c (xs.take i) : Nat) : Int)) (hu : u = ((partN c (xs.getD i 0) c : Nat) : Int)) :
    Builtin.bitXor v u = ((tableN c (xs.take (i + 1)) : Nat) : Int) := by
  rw [hv, hu, bxor_nat, take_snoc xs 0 hi, tableN_snoc]
theorem ints_len {vs : List Value} {xs : List Nat} (hc : IntsAre vs (xs.map fun (x : Nat) => (x : Int))) : vs.length = xs.length := by rw [hc.length, List.length_map]
end Mine
namespace Mine
/-! the ones -/
def onesN (c T : Nat) : Nat → Nat
  | 0 => T - (T / 2 ^ 1 &&& maskN c 0)
  | i + 1 => (onesN c T i &&& maskN c (1 + i)) + (onesN c T i / 2 ^ (2 ^ (1 + i)) &&& maskN c (1 + i))
def onesR (c T : Nat) : Nat := if c < 4 then onesN c T (c - 1) else onesN c T 3 % 65535
end Mine
namespace Mine
theorem getD_mr {c j : Nat} {f : Nat → Int} (h : j < c) : ((List.range c).map f).getD j 0 = f j := by simp [h]
theorem ones_start {c T : Nat} {v : Int} (h1 : 1 ≤ c) (hv : v = (T : Int)) :
    v - Builtin.bitAnd (v.fdiv (2 ^ Int.toNat 1)) (((List.range c).map (maskI c)).getD (Int.toNat 0) 0) = ((onesN c T 0 : Nat) : Int) := by
  show v - Builtin.bitAnd (v.fdiv (2 ^ 1)) (((List.range c).map (maskI c)).getD 0 0) = _
  rw [getD_mr h1, hv, fdiv_pow_nat, maskI_cast, band_nat]
  have h2 : T / 2 ^ 1 &&& maskN c 0 ≤ T := Nat.le_trans Nat.and_le_left (Nat.div_le_self _ _)
  show _ = ((T - (T / 2 ^ 1 &&& maskN c 0) : Nat) : Int)
  omega
theorem tn_one (i : Nat) : (1 + (i : Int)).toNat = 1 + i := by omega
theorem ones_step {c T i : Nat} {v : Int} (hi : 1 + i < c) (hv : v = ((onesN c T i : Nat) : Int)) :
    Builtin.bitAnd v (((List.range c).map (maskI c)).getD (1 + (i : Int)).toNat 0) + Builtin.bitAnd (v.fdiv (2 ^ ((2 : Int) ^ (1 + (i : Int)).toNat).toNat)) (((List.range c).map (maskI c)).getD (1 + (i : Int)).toNat 0) = ((onesN c T (i + 1) : Nat) : Int) := by
  rw [tn_one, getD_mr hi, tn_pow, hv, fdiv_pow_nat, maskI_cast, band_nat, band_nat]
  exact (Int.natCast_add _ _).symm
theorem ones_cnt (c : Nat) : ((if ((((List.range c).map (maskI c)).length : Nat) : Int) < 4 then ((((List.range c).map (maskI c)).length : Nat) : Int) else 4) - 1).toNat = min c 4 - 1 := by
  rw [List.length_map, List.length_range]; split <;> omega
theorem ones_le (c T i : Nat) (hi : 1 ≤ i) : onesN c T i ≤ 2 * fullN c := by
  obtain ⟨j, rfl⟩ : ∃ j, i = j + 1 := ⟨i - 1, by omega⟩
  have h1 : onesN c T j &&& maskN c (1 + j) ≤ fullN c := Nat.le_trans Nat.and_le_right (maskN_le _ _)
  have h2 : onesN c T j / 2 ^ (2 ^ (1 + j)) &&& maskN c (1 + j) ≤ fullN c := Nat.le_trans Nat.and_le_right (maskN_le _ _)
  show (onesN c T j &&& maskN c (1 + j)) + (onesN c T j / 2 ^ (2 ^ (1 + j)) &&& maskN c (1 + j)) ≤ _
  omega
theorem ones_div {c T : Nat} {v common : Int} (H : CmPre c common) (h4 : ¬ (c : Int) < 4) (hv : v = ((onesN c T (min c 4 - 1) : Nat) : Int)) : DivPre v 65535 common := by
  have h5 : min c 4 - 1 = 3 := by omega
  rw [h5] at hv
  have h6 := ones_le c T 3 (by decide)
  have h7 := fullN_lt c
  have h8 := cast_pow2 (2 ^ c)
  have h9 := H.lo
  have h10 := pow2_pos (2 ^ c)
  have h11 : (65535 : Int) < 2 ^ 4300 := by decide +kernel
  exact ⟨by omega, by decide, by omega, by omega, h11, H.hi⟩
theorem ones_lt4 {c T : Nat} {v : Int} (h4 : (c : Int) < 4) (hv : v = ((onesN c T (min c 4 - 1) : Nat) : Int)) : ((onesR c T : Nat) : Int) = v := by
  unfold onesR
  rw [if_pos (by omega), hv, show min c 4 - 1 = c - 1 by omega]
theorem ones_ge4 {c T : Nat} {v : Int} (h4 : ¬ (c : Int) < 4) (hv : v = ((onesN c T (min c 4 - 1) : Nat) : Int)) : ((onesR c T : Nat) : Int) = v % 65535 := by
  unfold onesR
  rw [if_neg (by omega), hv, show min c 4 - 1 = 3 by omega, Int.natCast_emod]; rfl
end Mine
end
section
open PySem PySem.W PyProof.Rows PySem.Calls PyProof.V PySem.Spec
namespace Mine
section
variable {prog : Program} {w : World} {A : Around} {E : Value → Shared → Prop} {s : Shared} {env : Env} {h₀ : Heap} {body : List Stmt} {Q : Flow → Shared → Prop}

/-- the end of a turn, any target: the iterator stands, the letters are c' -/
def LtEnd {σ : Type} (h₀ : Heap) (L : Addr) (G : σ → Led) (R : Led) (ps : σ → List (Str × Value)) (stored : List Str) (m₀ : Str → Option Value) (P : σ → Prop) (I : Addr) (it : Obj) (s₁ s₂ : Shared) : Prop :=
  ∃ (c' : σ) (h' : Heap) (tk : Nat) (m' : Str → Option Value) (news' : Led), s₂ = { s₁ with heap := h', toks := tk } ∧ Fr h₀ L h' m' ∧ News h₀ L h' news' ∧ (∀ p ∈ G c' ++ R, p ∈ news') ∧ (I, it) ∈ news' ∧ (∀ p ∈ G c', p.2 ≠ it) ∧
    (∀ p ∈ ps c', m' p.1 = some p.2) ∧ (∀ z, (∀ p ∈ ps c', z ≠ p.1) → stored.contains z = false → m' z = m₀ z) ∧ P c'
def LtPost {σ : Type} (h₀ : Heap) (L : Addr) (G : σ → Led) (R : Led) (ps : σ → List (Str × Value)) (stored : List Str) (m₀ : Str → Option Value) (P : σ → Prop) (I : Addr) (it : Obj) (s₁ : Shared) (Q : Flow → Shared → Prop) (f : Flow) (s₂ : Shared) : Prop :=
  match f with
  | .ret v => Q (.ret v) s₂
  | .brk => Q .next s₂
  | _ => LtEnd h₀ L G R ps stored m₀ P I it s₁ s₂
theorem lt_fr {L : Addr} {h : Heap} {ps : List (Str × Value)} {stored : List Str} {m₀ m₁ : Str → Option Value} (h1 : ∀ p ∈ ps, m₁ p.1 = some p.2) (h2 : ∀ z, (∀ p ∈ ps, z ≠ p.1) → stored.contains z = false → m₁ z = m₀ z)
    (F : Fr h₀ L h m₁) : Fr h₀ L h (kstB (fun z => if stored.contains z then m₁ z else m₀ z) ps) := ksw_fr h1 h2 F
/-- the iterator's two kinds -/
def itKind (o : Obj) : Prop := (o.cls = .type "range_iterator" ∨ o.cls = .type "list_iterator") ∧ ∃ a, o.data = .fields a
/-- a for over whatever target -/
def LoopG (prog : Program) (w : World) (A : Around) (env : Env) (target : PySem.Expr) (body : List Stmt) (Q : Flow → Shared → Prop) (E : Value → Shared → Prop) (it : Value) (s₂ : Shared) : Prop :=
  codeAny (model prog w) A (.forLoop target it body [] env) (fun r s' => match r with | .ok f => Q f s' | .error e => cameBackBy (model prog w) A env E e s') s₂
theorem For_G {target iter : PySem.Expr} {pos : Pos}
    (h : wpAny (model prog w) A (eval iter env) (fun xv s₁ => wpAny (model prog w) A (pyIter xv) (fun it s₂ => LoopG prog w A env target body Q E it s₂) E s₁) E s)
    (hs : ∀ x, foldedSetIterable iter env x = pure x := by intro _; rfl) :
    wpAny (model prog w) A (exec (.For target iter body [] pos) env) Q E s := wpAny_For h hs

theorem lt_walk {σ : Type} {I : Addr} {fp : List Addr} {n : Nat} {Pv : Nat → Value → Prop} {St : Nat → Heap → Prop} {m₀ : Str → Option Value} {target : PySem.Expr}
    (G : σ → Led) (R : Led) (ps : σ → List (Str × Value)) (stored : List Str) (P : Nat → σ → Prop) (c₀ : σ) (hE : PassesOwn (model prog w) A env E)
    (W : Walks prog w A I fp [I] n Pv St) (hIL : I ≠ env.locals) (hI : h₀.get? I = none) (hst : St 0 s.heap)
    (hgo : ∀ i (s' : Shared) v (Q' : Unit → Shared → Prop), St i s'.heap → Q' () s' → wpAny (model prog w) A (letOwnedTupleGo target (.ref I) v) Q' E s')
    (hSt : ∀ i h, St i h → ∃ it, h.get? I = some it ∧ itKind it)
    (hstay : ∀ i h h', St i h → News h₀ env.locals h R → News h₀ env.locals h' R → h'.get? I = h.get? I → St i h')
    (F : Fr h₀ env.locals s.heap m₀) (N : News h₀ env.locals s.heap (G c₀ ++ R)) (hnI : ∀ p ∈ G c₀ ++ R, p.1 ≠ I) (hk : ∀ p ∈ ps c₀, m₀ p.1 = some p.2) (hp : P 0 c₀)
    (turn : ∀ (c : σ) (i : Nat) v (u : Str → Option Value) (it : Obj) (s₁ : Shared), (∃ h tk, s₁ = { s with heap := h, toks := tk }) → i < n → Pv i v → (∀ p ∈ G c ++ R, p.1 ≠ I) → itKind it → P i c →
      Fr h₀ env.locals s₁.heap (lpM ps stored u m₀ c) → News h₀ env.locals s₁.heap ((I, it) :: (G c ++ R)) →
      wpAny (model prog w) A (assign target env v) (fun _ s₃ => wpAny (model prog w) A (execs body env) (LtPost h₀ env.locals G R ps stored m₀ (P (i + 1)) I it s₁ Q) E s₃) E s₁)
    (done : ∀ (c : σ) (u : Str → Option Value) h tk, P n c → Fr h₀ env.locals h (lpM ps stored u m₀ c) → News h₀ env.locals h (G c ++ R) → Q .next { s with heap := h, toks := tk }) :
    LoopG prog w A env target body Q E (.ref I) s := by
  have keepI : ∀ {h h₁ : Heap} {m : Str → Option Value} {nx : Led}, Fr h₀ env.locals h m → News h₀ env.locals h nx → (∀ p ∈ nx, p.1 ≠ I) → (∀ b o, b ∉ [I] → h.get? b = some o → h₁.get? b = some o) → Fr h₀ env.locals h₁ m ∧ News h₀ env.locals h₁ nx := by
    intro h h₁ m nx F N hne hk
    refine ⟨⟨F.ns.at' fun o e => hk _ o (fun hm => hIL (List.mem_singleton.mp hm).symm) e, fun b o e => hk b o (fun hm => ?_) (F.keep b o e), F.above⟩, fun p hp => ⟨hk _ _ (fun hm => hne p hp (List.mem_singleton.mp hm)) (N p hp).1, (N p hp).2⟩⟩
    rw [List.mem_singleton.mp hm, hI] at e; cases e
  refine codeAny_forLoop_any
    (fun k s' => ∃ h' tk m' i c, s' = { s with heap := h', toks := tk } ∧ St i h' ∧ Fr h₀ env.locals h' m' ∧ News h₀ env.locals h' (G c ++ R) ∧ (∀ p ∈ G c ++ R, p.1 ≠ I) ∧ (∀ p ∈ ps c, m' p.1 = some p.2) ∧ (∀ z, (∀ p ∈ ps c, z ≠ p.1) → stored.contains z = false → m' z = m₀ z) ∧ P i c ∧ i ≤ n ∧ k = n + 1 - i) ?_ (n + 1)
    ⟨s.heap, s.toks, m₀, 0, c₀, rfl, hst, F, N, hnI, hk, fun _ _ _ => rfl, hp, Nat.zero_le _, rfl⟩
  rintro k s' ⟨h', tk, m', i, c, rfl, hst', F', N', hne, h1, h2, hP, hi, rfl⟩
  by_cases hlt : i < n
  · refine W.item i _ _ _ hlt hst' fun v h₁ tk₁ hPv hst₁ hk₁ => ?_
    obtain ⟨F₁, N₁⟩ := keepI F' N' hne hk₁
    obtain ⟨it, hit, hik⟩ := hSt _ _ hst₁
    have N₂ : News h₀ env.locals h₁ ((I, it) :: (G c ++ R)) := fun p hp => by
      rcases List.mem_cons.mp hp with rfl | hp
      · exact ⟨hit, hIL, hI⟩
      · exact N₁ p hp
    refine wpAny_passesOwn hE (hgo (i + 1) _ v _ hst₁ ?_)
    refine wpAny_mono (turn c i v m' it { s with heap := h₁, toks := tk₁ } ⟨_, _, rfl⟩ hlt hPv hne hik hP (ksw_fr h1 h2 F₁) N₂) (fun _ s₃ h₃ => wpAny_mono h₃ (fun f s₄ h₄ => ?_) hE) hE
    have fin : LtEnd h₀ env.locals G R ps stored m₀ (P (i + 1)) I it { s with heap := h₁, toks := tk₁ } s₄ → ∃ m, m < n + 1 - i ∧ ∃ h' tk m' i' c, s₄ = { s with heap := h', toks := tk } ∧ St i' h' ∧ Fr h₀ env.locals h' m' ∧ News h₀ env.locals h' (G c ++ R) ∧ (∀ p ∈ G c ++ R, p.1 ≠ I) ∧ (∀ p ∈ ps c, m' p.1 = some p.2) ∧ (∀ z, (∀ p ∈ ps c, z ≠ p.1) → stored.contains z = false → m' z = m₀ z) ∧ P i' c ∧ i' ≤ n ∧ m = n + 1 - i' := by
      rintro ⟨c', h₅, tk₅, m₅, news₅, rfl, F₅, N₅, hn₅, hit₅, hc₅, hk₅, hr₅, hP₅⟩
      have hitg := (N₅ _ hit₅).1
      have hne' : ∀ p ∈ G c' ++ R, p.1 ≠ I := fun p hp e => by
        rcases List.mem_append.mp hp with hp' | hp'
        · have := (N₅ p (hn₅ p hp)).1
          rw [e, hitg] at this
          exact hc₅ p hp' (Option.some.inj this).symm
        · exact hne p (List.mem_append_right _ hp') e
      refine ⟨n + 1 - (i + 1), by omega, h₅, tk₅, m₅, i + 1, c', rfl, ?_, F₅, fun p hp => N₅ p (hn₅ p hp), hne', hk₅, hr₅, hP₅, hlt, rfl⟩
      exact hstay _ _ _ hst₁ (fun p hp => N₁ p (List.mem_append_right _ hp)) (fun p hp => N₅ p (hn₅ p (List.mem_append_right _ hp))) (by rw [hitg, hit])
    cases f with
    | next => exact fin h₄
    | cont => exact fin h₄
    | brk => exact h₄
    | ret v => exact h₄
  · have hin : i = n := by omega
    subst hin
    refine W.done _ _ _ hst' fun h₁ tk₁ hk₁ => wpAny_execs_nil ?_
    obtain ⟨F₁, N₁⟩ := keepI F' N' hne hk₁
    exact done c m' h₁ tk₁ hP (ksw_fr h1 h2 F₁) N₁

theorem lt_listL {σ : Type} {l : Addr} {vs : List Value} {nn : Nat} {m₀ : Str → Option Value} {target : PySem.Expr}
    (G : σ → Led) (R : Led) (ps : σ → List (Str × Value)) (stored : List Str) (P : Nat → σ → Prop) (c₀ : σ)
    (hh : A.handled = none) (hl : (l, listOf vs.toArray nn) ∈ R) (F : Fr h₀ env.locals s.heap m₀) (N : News h₀ env.locals s.heap (G c₀ ++ R)) (hk : ∀ p ∈ ps c₀, m₀ p.1 = some p.2) (hp : P 0 c₀)
    (turn : ∀ (c : σ) (i : Nat) v (u : Str → Option Value) (I : Addr) (it : Obj) (s₁ : Shared), (∃ h tk, s₁ = { s with heap := h, toks := tk }) → i < vs.length → vs[i]? = some v → (∀ p ∈ G c ++ R, p.1 ≠ I) → itKind it → P i c →
      Fr h₀ env.locals s₁.heap (lpM ps stored u m₀ c) → News h₀ env.locals s₁.heap ((I, it) :: (G c ++ R)) →
      wpAny (model prog w) A (assign target env v) (fun _ s₃ => wpAny (model prog w) A (execs body env) (LtPost h₀ env.locals G R ps stored m₀ (P (i + 1)) I it s₁ Q) E s₃) E s₁)
    (done : ∀ (c : σ) (u : Str → Option Value) h tk, P vs.length c → Fr h₀ env.locals h (lpM ps stored u m₀ c) → News h₀ env.locals h (G c ++ R) → Q .next { s with heap := h, toks := tk })
    (hE : PassesOwn (model prog w) A env E := by passes_own) :
    wpAny (model prog w) A (pyIter (.ref l)) (fun it s₂ => LoopG prog w A env target body Q E it s₂) E s := by
  have hol : s.heap.get? l = some (listOf vs.toArray nn) := (N _ (List.mem_append_right _ hl)).1
  have hls : s.heap.IsList l vs.toArray := ⟨_, hol, rfl, nn, rfl⟩
  have hne : l ≠ s.heap.objs.size := Nat.ne_of_lt (Heap.lt_size hol)
  refine wpAny_pyIter_list hls ?_
  have W := Walks.list (prog := prog) (w := w) hh s.heap.objs.size l hne vs.toArray
  have hlen : vs.toArray.size = vs.length := by simp
  rw [hlen] at W
  refine lt_walk G R ps stored P c₀ hE W (fun e => absurd F.ns.lt (by rw [← e]; exact Nat.lt_irrefl _)) (next_is_new F) ⟨⟨_, Heap.get?_push_size _ rfl, rfl, rfl⟩, hls.at fun o e => Heap.get?_push_of_some _ e⟩ (fun i s' v Q' st hQ' => letGo_listiter st.1 hQ') ?_ ?_ (F.push _)
    (fun p hp => ⟨Heap.get?_push_of_some _ (N p hp).1, (N p hp).2⟩) ?_ hk hp ?_ ?_
  · rintro i h ⟨⟨o, ho, hc, hd⟩, _⟩
    exact ⟨o, ho, .inr hc, _, hd⟩
  · rintro i h h' ⟨⟨o, ho, hc⟩, _⟩ _ N2 e
    exact ⟨⟨o, by rw [e]; exact ho, hc⟩, ⟨_, (N2 _ hl).1, rfl, nn, rfl⟩⟩
  · intro p hp e
    exact absurd (Heap.lt_size (N p hp).1) (e ▸ Nat.lt_irrefl _)
  · rintro c i v u it s₁ hs₁ hi hv hne' hc hP F' N'
    exact turn c i v u _ it s₁ hs₁ hi (by simpa using hv) hne' hc hP F' N'
  · intro c u h tk hP F' N'
    exact done c u h tk hP F' N'

theorem lt_range {σ : Type} {r : Addr} {a₀ b₀ : Int} {t₀ u₀ v₀ : Tok} {n : Nat} {m₀ : Str → Option Value} {y : Str} {py : Pos}
    (G : σ → Led) (R : Led) (ps : σ → List (Str × Value)) (stored : List Str) (P : Nat → σ → Prop) (c₀ : σ)
    (hh : A.handled = none) (hr : IsRange s.heap r a₀ b₀ 1 t₀ u₀ v₀) (hsmall : Builtin.Range.small a₀ b₀ 1 = true) (hn : Builtin.Range.rangeSize a₀ b₀ 1 = (n : Int)) (F : Fr h₀ env.locals s.heap m₀) (N : News h₀ env.locals s.heap (G c₀ ++ R)) (hk : ∀ p ∈ ps c₀, m₀ p.1 = some p.2) (hp : P 0 c₀)
    (turn : ∀ (c : σ) (i : Nat) t (u : Str → Option Value) (I : Addr) (it : Obj) (s₁ : Shared), (∃ h tk, s₁ = { s with heap := h, toks := tk }) → i < n → (∀ p ∈ G c ++ R, p.1 ≠ I) → itKind it → P i c →
      Fr h₀ env.locals s₁.heap (lpM ps stored u m₀ c) → News h₀ env.locals s₁.heap ((I, it) :: (G c ++ R)) →
      wpAny (model prog w) A (assign (.Name y py) env (.int (a₀ + (i : Int)) t)) (fun _ s₃ => wpAny (model prog w) A (execs body env) (LtPost h₀ env.locals G R ps stored m₀ (P (i + 1)) I it s₁ Q) E s₃) E s₁)
    (done : ∀ (c : σ) (u : Str → Option Value) h tk, P n c → Fr h₀ env.locals h (lpM ps stored u m₀ c) → News h₀ env.locals h (G c ++ R) → Q .next { s with heap := h, toks := tk })
    (hE : PassesOwn (model prog w) A env E := by passes_own) :
    wpAny (model prog w) A (pyIter (.ref r)) (fun it s₂ => LoopG prog w A env (.Name y py) body Q E it s₂) E s := by
  refine wpAny_pyIter_range hr hsmall ?_
  have W : Walks prog w A s.heap.objs.size [s.heap.objs.size] [s.heap.objs.size] n (fun i v => i < n ∧ ∃ t, v = .int (a₀ + i * 1) t)
      (fun i h => IsRangeIter h s.heap.objs.size (a₀ + (i : Nat) * 1) ((n : Int) - (i : Nat)) 1) := (Walks.range hh _ a₀ 1 n).bound
  refine lt_walk G R ps stored P c₀ hE W (fun e => absurd F.ns.lt (by rw [← e]; exact Nat.lt_irrefl _)) (next_is_new F) (by show IsRangeIter _ _ _ _ _; rw [hn]; simpa using Heap.get?_push_size _ rfl) (fun i s' v Q' _ hQ' => wpAny_pure hQ') ?_ ?_ (F.push _)
    (fun p hp => ⟨Heap.get?_push_of_some _ (N p hp).1, (N p hp).2⟩) ?_ hk hp ?_ ?_
  · intro i h st
    exact ⟨_, st, .inl rfl, _, rfl⟩
  · intro i h h' st _ _ e
    show h'.get? _ = _
    rw [e]; exact st
  · intro p hp e
    exact absurd (Heap.lt_size (N p hp).1) (e ▸ Nat.lt_irrefl _)
  · rintro c i v u it s₁ hs₁ hi ⟨_, t, rfl⟩ hne hc hP F' N'
    have e1 : a₀ + (i : Int) * 1 = a₀ + (i : Int) := by omega
    rw [e1]
    exact turn c i t u _ it s₁ hs₁ hi hne hc hP F' N'
  · intro c u h tk hP F' N'
    exact done c u h tk hP F' N'
end
section
variable {σ : Type} {h₀ h' : Heap} {L : Addr} {G : σ → Led} {R : Led} {ps : σ → List (Str × Value)} {stored : List Str} {m₀ m' : Str → Option Value} {P : σ → Prop} {I : Addr} {it : Obj} {s₁ : Shared} {tk : Nat} {news' : Led}
theorem LtEnd.intro (c' : σ) (F : Fr h₀ L h' m') (N : News h₀ L h' news') (hn : ∀ p ∈ G c' ++ R, p ∈ news') (hit : (I, it) ∈ news') (hc : ∀ p ∈ G c', p.2 ≠ it)
    (hk : ∀ p ∈ ps c', m' p.1 = some p.2) (hr : ∀ z, (∀ p ∈ ps c', z ≠ p.1) → stored.contains z = false → m' z = m₀ z) (hp : P c') : LtEnd h₀ L G R ps stored m₀ P I it s₁ { s₁ with heap := h', toks := tk } :=
  ⟨c', h', tk, m', news', rfl, F, N, hn, hit, hc, hk, hr, hp⟩
end
theorem ne_it_list {o it : Obj} (h : itKind it) (h1 : o.cls = .type "list") : o ≠ it := by
  rintro rfl
  rcases h.1 with e | e <;> (rw [h1] at e; exact absurd (Value.type.inj e) (by decide))
theorem ne_it_tuple {o it : Obj} (h : itKind it) (h1 : o.cls = .type "tuple") : o ≠ it := by
  rintro rfl
  rcases h.1 with e | e <;> (rw [h1] at e; exact absurd (Value.type.inj e) (by decide))
theorem ne_it_cell {o it : Obj} {v : Option Value} (h : itKind it) (h1 : o.data = .cell v) : o ≠ it := by
  rintro rfl
  obtain ⟨a, e⟩ := h.2
  rw [h1] at e; cases e
end Mine
end
section
open PySem PySem.W PyProof.Rows
namespace Mine
/-! lists of pairs on the ledger -/
structure TT where
  p : Addr
  a : Int
  t : Tok
  b : Int
  u : Tok
abbrev TT.e (x : TT) : Addr × Obj := (x.p, { cls := .type "tuple", data := .seq #[.int x.a x.t, .int x.b x.u] })
abbrev TT.r (x : TT) : Value := .ref x.p
abbrev TT.v (x : TT) : Int × Int := (x.a, x.b)
structure DS where
  p : Addr
  k : Nat
  tl : List TT
  o1 : Obj
  o2 : Obj
def termsN (xs : List Nat) : List (Int × Int) :=
  xs.foldl (fun (ts : List (Int × Int)) (one : Nat) => ts ++ [(1, (one : Int))] ++ ts.map (fun q => (-2 * q.1, Builtin.bitOr q.2 (one : Int)))) []
theorem snoc_ind {α : Type} {P : List α → Prop} (h0 : P []) (h1 : ∀ xs x, P xs → P (xs ++ [x])) (xs : List α) : P xs := by
  have : ∀ n (xs : List α), xs.length = n → P xs := by
    intro n
    induction n with
    | zero => intro xs h; rw [List.length_eq_zero_iff.mp h]; exact h0
    | succ n ih =>
      intro xs h
      have hne : xs ≠ [] := by intro e; rw [e] at h; exact absurd h (by simp)
      rw [← List.dropLast_concat_getLast hne]
      exact h1 _ _ (ih _ (by rw [List.length_dropLast]; omega))
  exact this _ xs rfl
theorem termsN_snoc (xs : List Nat) (x : Nat) : termsN (xs ++ [x]) = termsN xs ++ [(1, (x : Int))] ++ (termsN xs).map (fun q => (-2 * q.1, Builtin.bitOr q.2 (x : Int))) := by
  unfold termsN; rw [List.foldl_append]; rfl
theorem termsN_len (xs : List Nat) : (termsN xs).length = 2 ^ xs.length - 1 := by
  refine snoc_ind (P := fun xs => (termsN xs).length = 2 ^ xs.length - 1) rfl (fun xs x ih => ?_) xs
  rw [termsN_snoc]
  simp only [List.length_append, List.length_map, List.length_cons, List.length_nil, ih]
  have := Nat.two_pow_pos xs.length
  rw [Nat.pow_succ]; omega
/-- two things on one ledger lie apart when they differ -/
theorem apart {h₀ h : Heap} {L : Addr} {T : List (Addr × Obj)} (N : News h₀ L h T) {a b : Addr} {o o' : Obj} (h1 : (a, o) ∈ T) (h2 : (b, o') ∈ T) (h3 : o ≠ o') : (a : Nat) ≠ b := by
  intro e
  have e' : a = b := e
  subst e'
  have h4 := (N _ h1).1
  have h5 := (N _ h2).1
  rw [h4] at h5
  exact h3 (Option.some.inj h5)
end Mine
namespace Mine
theorem cell_ne_list {o : Obj} {v : Option Value} {a : Array Value} {k : Nat} (h : o.data = .cell v) : listOf a k ≠ o := by
  rintro rfl; cases h
theorem due_ne {h₀ h : Heap} {L c : Addr} {o : Obj} {v : Option Value} {tl : List TT} {news T P : List (Addr × Obj)} (N : News h₀ L h (P ++ T)) (hc : (c, o) ∈ P) (hd : o.data = .cell v) (hT : T = tl.map TT.e ++ news) (hl : ∀ p ∈ news, p.1 < L) (hL : L ≤ c) :
    ∀ p ∈ T, p.1 ≠ c := by
  intro p hp
  have hp' := hp
  rw [hT] at hp'
  rcases List.mem_append.mp hp' with h1 | h1
  · obtain ⟨x, _, rfl⟩ := List.mem_map.mp h1
    refine apart N (List.mem_append_right _ hp) (List.mem_append_left _ hc) ?_
    rintro rfl; cases hd
  · have := hl p h1
    exact Nat.ne_of_lt (Nat.lt_of_lt_of_le this hL)
end Mine
namespace Mine
section
variable {prog : Program} {w : World} {A : Around} {E : Value → Shared → Prop} {s : Shared} {h₀ : Heap} {L a b : Addr} {m : Str → Option Value} {nw : List (Addr × Obj)} {Q : Value → Shared → Prop} {xs ys : List Value} {k₁ k₂ : Nat}
theorem r_addl (F : Fr h₀ L s.heap m) (N : News h₀ L s.heap nw) (ha : (a, listOf xs.toArray k₁) ∈ nw) (hb : (b, listOf ys.toArray k₂) ∈ nw)
    (h : ∀ D h', Fr h₀ L h' m → News h₀ L h' ((D, listOf (xs ++ ys).toArray 0) :: nw) → (∀ p ∈ nw, p.1 < D) → Q (.ref D) { s with heap := h' })
    (hz : Ob (xs.length + ys.length ≤ sizeLine)) : wpAny (model prog w) A (binaryOp .Add (.ref a) (.ref b)) Q E s :=
  kmk_add_lit F N ⟨_, (N _ ha).1, rfl, k₁, rfl⟩ ⟨_, (N _ hb).1, rfl, k₂, rfl⟩ rfl h hz
end
end Mine
namespace Mine
theorem due_size {n k : Nat} (h : n = 2 ^ k - 1) (hk : k ≤ 6) : n ≤ sizeLine := by
  have h1 : 2 ^ k ≤ 2 ^ 6 := Nat.pow_le_pow_right (by decide) hk
  have h2 : n ≤ 64 := by omega
  exact Nat.le_trans h2 (Nat.le_of_ble_eq_true rfl)
end Mine
end
section
open PySem PySem.W PyProof.Rows
namespace Mine
/-! the plain numbers of the second law -/
/-- m ones, one in every s bits -/
def everyN (m s : Nat) : Nat := (2 ^ (m * s) - 1) / (2 ^ s - 1)
theorem every_dvd (s : Nat) : ∀ m, (2 ^ s - 1) ∣ (2 ^ (m * s) - 1)
  | 0 => by simp
  | m + 1 => by
    have e : 2 ^ ((m + 1) * s) - 1 = 2 ^ s * (2 ^ (m * s) - 1) + (2 ^ s - 1) := by
      rw [Nat.succ_mul, Nat.pow_add]
      have h1 := Nat.two_pow_pos (m * s)
      have h2 := Nat.two_pow_pos s
      generalize 2 ^ (m * s) = a at h1 ⊢
      generalize 2 ^ s = b at h2 ⊢
      obtain ⟨a', rfl⟩ : ∃ a', a = a' + 1 := ⟨a - 1, by omega⟩
      obtain ⟨b', rfl⟩ : ∃ b', b = b' + 1 := ⟨b - 1, by omega⟩
      simp only [Nat.add_mul, Nat.mul_add, Nat.add_sub_cancel, Nat.mul_one, Nat.one_mul, Nat.mul_comm a' b']
      omega
    rw [e]
    exact Nat.dvd_add (Nat.dvd_trans (every_dvd s m) (Nat.dvd_mul_left _ _)) (Nat.dvd_refl _)
theorem every_succ {s : Nat} (hs : 1 ≤ s) (m : Nat) : everyN (m + 1) s = 1 + 2 ^ s * everyN m s := by
  have h0 : 0 < 2 ^ s - 1 := by
    have : 2 ^ 1 ≤ 2 ^ s := Nat.pow_le_pow_right (by decide) hs
    omega
  obtain ⟨d, hd⟩ := every_dvd s m
  have e : 2 ^ ((m + 1) * s) - 1 = 2 ^ s * (2 ^ (m * s) - 1) + (2 ^ s - 1) := by
    rw [Nat.succ_mul, Nat.pow_add]
    have h1 := Nat.two_pow_pos (m * s)
    have h2 := Nat.two_pow_pos s
    generalize 2 ^ (m * s) = a at h1 ⊢
    generalize 2 ^ s = b at h2 ⊢
    obtain ⟨a', rfl⟩ : ∃ a', a = a' + 1 := ⟨a - 1, by omega⟩
    obtain ⟨b', rfl⟩ : ∃ b', b = b' + 1 := ⟨b - 1, by omega⟩
    simp only [Nat.add_mul, Nat.mul_add, Nat.add_sub_cancel, Nat.mul_one, Nat.one_mul, Nat.mul_comm a' b']
    omega
  unfold everyN
  rw [e, hd, Nat.mul_div_cancel_left _ h0]
  have e2 : 2 ^ s * ((2 ^ s - 1) * d) + (2 ^ s - 1) = (2 ^ s - 1) * (1 + 2 ^ s * d) := by
    rw [Nat.mul_add, Nat.mul_one, Nat.mul_left_comm, Nat.add_comm]
  rw [e2, Nat.mul_div_cancel_left _ h0]
theorem every_zero (s : Nat) : everyN 0 s = 0 := by unfold everyN; simp
/-- what _law_every is called with -/
structure EvPre (m s : Nat) (common : Int) : Prop where
  s1 : 1 ≤ s
  sl : s ≤ 2500
  m8 : m ≤ 8
  lo : 2 ^ (m * s) ≤ common
  hi : common < 2 ^ 20000
section
variable {m s : Nat} {common : Int}
theorem ev_exp : ((m : Int) * (s : Int)).toNat = m * s := by rw [← Int.natCast_mul, Int.toNat_natCast]
theorem EvPre.ms (H : EvPre m s common) : m * s ≤ 20000 := Nat.le_trans (Nat.mul_le_mul H.m8 H.sl) (by decide)
theorem EvPre.o1 (H : EvPre m s common) : 0 ≤ (m : Int) * (s : Int) ∧ (m : Int) * (s : Int) ≤ 100000 ∧ Sm 1 := by
  have := H.ms
  rw [← Int.natCast_mul]
  generalize m * s = z at this ⊢
  exact ⟨by omega, by omega, sm_one⟩
theorem EvPre.o2 (H : EvPre m s common) : 0 ≤ (s : Int) ∧ (s : Int) ≤ 100000 ∧ Sm 1 := by
  have := H.sl
  exact ⟨by omega, by omega, sm_one⟩
theorem EvPre.o3 (H : EvPre m s common) : Sm (m : Int) ∧ Sm (s : Int) := by
  have := H.sl
  have := H.m8
  exact ⟨sm_of_lt (n := 4) (by rw [show (2 : Nat) ^ 4 = 16 by decide]; omega) (by decide), sm_of_lt (n := 12) (by rw [show (2 : Nat) ^ 12 = 4096 by decide]; omega) (by decide)⟩
theorem ev_top : (1 : Int) * 2 ^ ((m : Int) * (s : Int)).toNat - 1 = ((2 ^ (m * s) - 1 : Nat) : Int) := by
  rw [ev_exp, Int.one_mul, Int.natCast_sub (Nat.two_pow_pos _), cast_pow2]; rfl
theorem ev_bot : (1 : Int) * 2 ^ ((s : Nat) : Int).toNat - 1 = ((2 ^ s - 1 : Nat) : Int) := by
  rw [Int.toNat_natCast, Int.one_mul, Int.natCast_sub (Nat.two_pow_pos _), cast_pow2]; rfl
theorem EvPre.div (H : EvPre m s common) : DivPre (1 * 2 ^ ((m : Int) * (s : Int)).toNat - 1) (1 * 2 ^ ((s : Nat) : Int).toNat - 1) common := by
  have h1 := pow2_pos (m * s)
  have h2 : (2 : Int) ^ 1 ≤ 2 ^ s := pow2_le H.s1
  have h3 := H.lo
  have h4 : (2 : Int) ^ s ≤ 2 ^ 4300 := pow2_le (by have := H.sl; omega)
  have h5 : common * 1 ≤ common * (1 * 2 ^ s - 1) := Int.mul_le_mul_of_nonneg_left (by omega) (by omega)
  rw [ev_exp, Int.toNat_natCast]
  exact ⟨by omega, by omega, by omega, by omega, by omega, H.hi⟩
theorem EvPre.quo (_H : EvPre m s common) : (1 * 2 ^ ((m : Int) * (s : Int)).toNat - 1) / (1 * 2 ^ ((s : Nat) : Int).toNat - 1) = ((everyN m s : Nat) : Int) := by
  rw [ev_top, ev_bot]
  unfold everyN
  rw [Int.natCast_ediv]
theorem EvPre.rest (_H : EvPre m s common) : ((1 : Int) * 2 ^ ((m : Int) * (s : Int)).toNat - 1) % (1 * 2 ^ ((s : Nat) : Int).toNat - 1) = 0 := by
  rw [ev_top, ev_bot, ← Int.natCast_emod, Nat.mod_eq_zero_of_dvd (every_dvd s m)]; rfl
end
end Mine
end
section
open PySem PySem.W PyProof.Rows
set_option maxRecDepth 100000
namespace Mine
local macro_rules | `(tactic| walk_at "binaryOp LShift int int") => `(tactic| (k_here; with_reducible refine r_lsh ?_ ?_))
local macro_rules | `(tactic| walk_at "inplaceOp LShift int int") => `(tactic| (k_here; with_reducible refine r_ilsh ?_ ?_))
local macro_rules | `(tactic| walk_at "binaryOp Mult int int") => `(tactic| (k_here; with_reducible refine r_mul ?_ ?_))
local macro_rules | `(tactic| walk_at "binaryOp FloorDiv int int") => `(tactic| (k_here; with_reducible refine r_fdiv ?_ ?_))
local macro_rules | `(tactic| walk_at "binaryOp Mod int int") => `(tactic| (k_here; with_reducible refine r_mod ?_ ?_))
local macro_rules | `(tactic| walk_at "binaryOp RShift int int") => `(tactic| (k_here; with_reducible refine r_rsh ?_ ?_))
local macro_rules | `(tactic| walk_at "inplaceOp RShift int int") => `(tactic| (k_here; with_reducible refine r_irsh ?_ ?_))
local macro_rules | `(tactic| walk_at "call builtin:divmod") => `(tactic| (k_here; k_dflt (refine' r_divmod ?k1 ?k2 ?_ ?_; (case k1 => k_asm); (case k2 => k_asm)); intro p9 h9 F9 N9 l9; (try k_lt l9)))
local macro_rules | `(tactic| walk_at "call builtin:list.append") => `(tactic| (k_here; k_dflt (refine' r_append ?k1 ?k2 ?k3 ?_ ?_; (case k1 => k_asm); (case k2 => k_asm); (case k3 => k_upd)); intro h' F' N'; (try k_sweep)))
local macro_rules | `(tactic| walk_at "call ref") => `(tactic| (k_here; k_extra "mycall"))

set_option maxHeartbeats 8000000 in
theorem c_every (w : World) (mean : ExcName → Option Value) (mg mb : Str → Option Value) (news : List (Addr × Obj)) (mm ss : Nat) (common : Int) (t u v : Tok) (H : Ob (EvPre mm ss common)) :
   Cl w mean mg mb 77 12 news [.int mm t, .int ss u, .int common v] (RetI news (everyN mm ss : Nat)) := by
  unfold Cl; k_fill
  intro dp un gd cn cs a9 ccd cl outer A₀ base h₀ L m s Q E hB hF hX hN hTop hk hdp hun hret
  k_with_none
  k_with "mycall" => first | (refine' c_isub _ _ _ _ _ _ _ _ _ _ _ _ _ _ _ _ _ _ _ _ _ _ _ _ _ _ ?k1 ?k2 ?k3 ?k4 ?k5 ?kK ?kd ?ku ?_; (case k1 => k_asm); (case k2 => k_asm); (case k3 => k_asm); (case k4 => k_asm); (case k5 => k_asm); (case kK => exact rfl); (case kd => cb_room); (case ku => cb_units); intro t9 h9 tk9 F9 N9) | (refine' c_ilshift _ _ _ _ _ _ _ _ _ ?_ _ _ _ _ _ _ _ _ _ _ _ _ _ _ _ _ _ ?k1 ?k2 ?k3 ?k4 ?k5 ?kK ?kd ?ku ?_; (case k1 => k_asm); (case k2 => k_asm); (case k3 => k_asm); (case k4 => k_asm); (case k5 => k_asm); (case kK => exact rfl); (case kd => cb_room); (case ku => cb_units); rotate_left; intro t9 h9 tk9 F9 N9) | (refine' c_divide _ _ _ _ _ _ _ _ _ _ _ ?_ _ _ _ _ _ _ _ _ _ _ _ _ _ _ _ _ _ ?k1 ?k2 ?k3 ?k4 ?k5 ?kK ?kd ?ku ?_; (case k1 => k_asm); (case k2 => k_asm); (case k3 => k_asm); (case k4 => k_asm); (case k5 => k_asm); (case kK => exact rfl); (case kd => cb_room); (case ku => cb_units); rotate_left; intro p9 t9 u9 h9 tk9 F9 N9 l9; (try k_lt l9))
  refine wpAny_call ?_
  k_dflt cell_enter
  k_steps
  all_goals first
    | exact H.o1
    | exact H.o2
    | exact H.o3
    | exact H.div
    | exact absurd H.rest (by assumption)
    | (rw [RetI, ← H.quo] at hret; (refine' hret _ _ _ ?e1 (cb_drop ?e2 ?e3); (case e1 => k_asm); (case e2 => k_asm); (case e3 => kcj_all)))
    | skip
theorem d_every (w : World) (mean : ExcName → Option Value) (mg mb : Str → Option Value) (news : List (Addr × Obj)) (M S : Int) (common : Int) (t u v : Tok) (H : Ob (0 ≤ M ∧ 0 ≤ S ∧ EvPre M.toNat S.toNat common)) :
   Cl w mean mg mb 77 12 news [.int M t, .int S u, .int common v] (RetI news (everyN M.toNat S.toNat : Nat)) := by
  have h := c_every w mean mg mb news M.toNat S.toNat common t u v H.2.2
  rw [Int.toNat_of_nonneg H.1, Int.toNat_of_nonneg H.2.1] at h
  exact h
end Mine
end
section
open PySem PySem.W PyProof.Rows PySem.Calls PySem.Spec
open PyProof.Rows.LCg (NsObj lst Off3 Off1 SrcAt CompEnd CompRest FinE)
open PyProof.Rows.LCp (CompRestP SrcLP)
namespace Mine
section
variable {prog : Program} {w : World} {A : Around} {E : Value → Shared → Prop} {s : Shared} {h₀ : Heap} {L : Addr} {m : Str → Option Value} {env : Env}
/-- a turn's end: a new pair -/
def CPEnd (h₀ : Heap) (L : Addr) (m : Str → Option Value) (led : List (Addr × Obj)) (a b : Int) (s₁ : Shared) (y : Value) (s₂ : Shared) : Prop :=
  ∃ (x : TT) (h' : Heap) (tk' : Nat), y = x.r ∧ x.a = a ∧ x.b = b ∧ s₂ = { s₁ with heap := h', toks := tk' } ∧ Fr h₀ L h' m ∧ News h₀ L h' (x.e :: led) ∧ ∀ q ∈ led, q.1 < x.p
theorem CPEnd.intro {led : List (Addr × Obj)} {a b a' b' : Int} {p : Addr} {t u : Tok} {s₁ : Shared} {h' : Heap} {tk' : Nat}
    (F : Fr h₀ L h' m) (N : News h₀ L h' ((p, { cls := .type "tuple", data := .seq #[.int a' t, .int b' u] }) :: led)) (l : ∀ q ∈ led, q.1 < p) (ha : a' = a) (hb : b' = b) : CPEnd h₀ L m led a b s₁ (.ref p) { s₁ with heap := h', toks := tk' } :=
  ⟨⟨p, a', t, b', u⟩, h', tk', rfl, ha, hb, rfl, F, N, l⟩
theorem lcp_ind {elt : Expr} {x x₂ : Str} {scope : Scope} {cl : List (Str × Addr)} {S : List (Addr × Obj) → Prop} {Fin : List Value → List (Addr × Obj) → Prop} {nw : List (Addr × Obj)} (tl : List TT) (f : Int × Int → Int × Int)
    (hS : ∀ nw', (∀ p ∈ nw, p ∈ nw') → S nw') (htl : ∀ y ∈ tl, y.e ∈ nw)
    (turn : ∀ (y : TT) (nw' : List (Addr × Obj)) ys I oI C oC D m₂ (s₁ : Shared) (E' : Value → Shared → Prop), (∃ h tk, s₁ = { s with heap := h, toks := tk }) → y ∈ tl → (∀ p ∈ nw, p ∈ nw') → NsObj oC m₂ → m₂ x = some (.int y.a y.t) → m₂ x₂ = some (.int y.b y.u) → Fr h₀ L s₁.heap m → News h₀ L s₁.heap ((I, oI) :: (C, oC) :: (D, lst ys) :: nw') →
      wpAny (model prog w) A (eval elt (compEnvC scope cl C env)) (CPEnd h₀ L m ((I, oI) :: (C, oC) :: (D, lst ys) :: nw') (f y.v).1 (f y.v).2 s₁) E' s₁)
    (fin : ∀ (tl' : List TT) (nw' : List (Addr × Obj)), tl'.map TT.v = (tl.map TT.v).map f → (∀ y ∈ tl', y.e ∈ nw') → (∀ p ∈ nw, p ∈ nw') → Fin (tl'.map TT.r) nw') :
    ∀ (r : List TT) (i : Nat) (tl' : List TT) (nw' : List (Addr × Obj)), tl.drop i = r → tl'.map TT.v = ((tl.take i).map TT.v).map f → (∀ y ∈ tl', y.e ∈ nw') → (∀ p ∈ nw, p ∈ nw') →
      CompRestP prog w A h₀ L m env elt x x₂ scope cl s S (fun i v => (tl.map TT.r).toArray[i]? = some v) Fin r.length i (tl'.map TT.r) nw'
  | [], i, tl', nw', hd, hv, ht, hk => by
    refine CompRestP.zero (fin tl' nw' ?_ ht hk)
    have : tl.length ≤ i := List.drop_eq_nil_iff.mp hd
    rw [hv, List.take_of_length_le this]
  | y :: r, i, tl', nw', hd, hv, ht, hk => by
    have hi : i < tl.length := by
      rcases Nat.lt_or_ge i tl.length with h | h
      · exact h
      · rw [List.drop_eq_nil_of_le h] at hd; cases hd
    have hget : tl[i]'hi = y := by
      have := List.drop_eq_getElem_cons hi
      rw [hd] at this
      exact (List.cons.inj this).1.symm
    have hdr : tl.drop (i + 1) = r := by
      have := List.drop_eq_getElem_cons hi
      rw [hd] at this
      exact (List.cons.inj this).2.symm
    have hyt : y ∈ tl := hget ▸ List.getElem_mem hi
    refine CompRestP.succ fun v hv' => ?_
    have ev : v = y.r := by
      simp only [List.getElem?_toArray, List.getElem?_map, List.getElem?_eq_getElem hi, hget, Option.map_some] at hv'
      exact (Option.some.inj hv').symm
    subst ev
    refine ⟨y.p, _, .int y.a y.t, .int y.b y.u, 0, rfl, hk _ (htl y hyt), rfl, rfl, ?_⟩
    intro I oI C oC D m₂ h tk E' hC hx hx₂ F N off ne
    refine wpAny_mono (turn y nw' _ I oI C oC D m₂ { s with heap := h, toks := tk } E' ⟨_, _, rfl⟩ hyt hk hC hx hx₂ F N) (fun z s₂ hz => ?_) fun _ _ e => e
    obtain ⟨y', h', tk', rfl, ha, hb, rfl, F', N', l'⟩ := hz
    refine CompEnd.intro F' N' (y'.e :: nw') (fun p hp => ?_) ?_ (hS _ fun p hp => List.mem_cons_of_mem _ (hk p hp)) ?_
    · rcases List.mem_cons.mp hp with rfl | hp
      · exact List.mem_cons_of_mem _ List.mem_cons_self
      rcases List.mem_cons.mp hp with rfl | hp
      · exact List.mem_cons_of_mem _ (List.mem_cons_of_mem _ List.mem_cons_self)
      rcases List.mem_cons.mp hp with rfl | hp
      · exact List.mem_cons_of_mem _ (List.mem_cons_of_mem _ (List.mem_cons_of_mem _ List.mem_cons_self))
      rcases List.mem_cons.mp hp with rfl | hp
      · exact List.mem_cons_self
      · exact List.mem_cons_of_mem _ (List.mem_cons_of_mem _ (List.mem_cons_of_mem _ (List.mem_cons_of_mem _ hp)))
    · refine ⟨⟨?_, ?_, ?_⟩, off⟩
      · exact Nat.ne_of_gt (l' _ List.mem_cons_self)
      · exact Nat.ne_of_gt (l' _ (List.mem_cons_of_mem _ List.mem_cons_self))
      · exact Nat.ne_of_gt (l' _ (List.mem_cons_of_mem _ (List.mem_cons_of_mem _ List.mem_cons_self)))
    · have := lcp_ind tl f hS htl turn fin r (i + 1) (tl' ++ [y']) (y'.e :: nw') hdr ?_ ?_ ?_
      · rw [List.map_append] at this; exact this
      · rw [List.map_append, hv, List.take_add_one, List.getElem?_eq_getElem hi, hget]
        simp only [Option.toList_some, List.map_append, List.map_cons, List.map_nil]
        congr 2
        exact Prod.ext ha hb
      · intro z hz
        rcases List.mem_append.mp hz with hz | hz
        · exact List.mem_cons_of_mem _ (ht z hz)
        · rw [List.mem_singleton.mp hz]; exact List.mem_cons_self
      · exact fun p hp => List.mem_cons_of_mem _ (hk p hp)
/-- a comprehension of pairs over pairs -/
theorem r_lcp {elt : Expr} {x x₂ : Str} {scope : Scope} {cl : List (Str × Addr)} {Q : Value → Shared → Prop} {q : Addr} {nw : List (Addr × Obj)} {kk : Nat} (tl : List TT) (f : Int × Int → Int × Int)
    (hh : A.handled = none) (F : Fr h₀ L s.heap m) (N : News h₀ L s.heap nw) (hq : (q, listOf (tl.map TT.r).toArray kk) ∈ nw) (hsz : tl.length ≤ sizeLine) (htl : ∀ y ∈ tl, y.e ∈ nw)
    (turn : ∀ (y : TT) (nw' : List (Addr × Obj)) ys I oI C oC D m₂ (s₁ : Shared) (E' : Value → Shared → Prop), (∃ h tk, s₁ = { s with heap := h, toks := tk }) → y ∈ tl → (∀ p ∈ nw, p ∈ nw') → NsObj oC m₂ → m₂ x = some (.int y.a y.t) → m₂ x₂ = some (.int y.b y.u) → Fr h₀ L s₁.heap m → News h₀ L s₁.heap ((I, oI) :: (C, oC) :: (D, lst ys) :: nw') →
      wpAny (model prog w) A (eval elt (compEnvC scope cl C env)) (CPEnd h₀ L m ((I, oI) :: (C, oC) :: (D, lst ys) :: nw') (f y.v).1 (f y.v).2 s₁) E' s₁)
    (ret : ∀ D (tl' : List TT) (nw' : List (Addr × Obj)) h tk, tl'.map TT.v = (tl.map TT.v).map f → (∀ y ∈ tl', y.e ∈ nw') → (∀ p ∈ nw, p ∈ nw') → (∀ p ∈ nw', p.1 ≠ D) → Fr h₀ L h m → News h₀ L h ((D, listOf (tl'.map TT.r).toArray (tl'.map TT.r).length) :: nw') → Q (.ref D) { s with heap := h, toks := tk }) :
    SrcLP prog w A h₀ L m env elt x x₂ scope cl (fun s₂ => FinE h₀ L m s₂ Q) (.ref q) s := by
  refine SrcLP.ledger hh F N hq (by rw [List.size_toArray, List.length_map]; exact hsz) fun g => ?_
  have e : (tl.map TT.r).toArray.size = tl.length := by rw [List.size_toArray, List.length_map]
  rw [e]
  show CompRestP prog w A h₀ L m env elt x x₂ scope cl _ _ _ _ tl.length 0 (([] : List TT).map TT.r) nw
  refine lcp_ind (s := { s with heap := g }) (S := SrcAt h₀ q (tl.map TT.r).toArray) (Fin := FinE h₀ L m { s with heap := g } Q) tl f (fun nw' hk => Or.inr ⟨_, hk _ hq, rfl, kk, rfl⟩) htl turn ?_ tl 0 [] nw rfl rfl (fun _ h => (nomatch h)) (fun _ h => h)
  intro tl' nw' hv ht hk D h tk F' N' off
  refine ret D tl' nw' h tk hv ht hk ?_ F' N'
  clear ret turn hk ht N'
  induction nw' with
  | nil => exact fun p hp => (nomatch hp)
  | cons z r ih =>
    intro p hp
    rcases List.mem_cons.mp hp with rfl | hp
    · exact off.1
    · exact ih off.2 p hp
end
end Mine
end
section
open PySem PySem.W PyProof.Rows PySem.Calls PySem.Spec
open PyProof.Rows.LCg (NsObj lst Off3 Off1 SrcAt CompEnd CompRest FinE CompSrc)
namespace Mine
section
variable {prog : Program} {w : World} {A : Around} {E : Value → Shared → Prop} {s : Shared} {h₀ : Heap} {L : Addr} {m : Str → Option Value} {env : Env}
/-- a turn's end: a whole number -/
def CIEnd (h₀ : Heap) (L : Addr) (m : Str → Option Value) (led : List (Addr × Obj)) (a : Int) (s₁ : Shared) (y : Value) (s₂ : Shared) : Prop :=
  ∃ (t : Tok) (h' : Heap) (tk' : Nat), y = .int a t ∧ s₂ = { s₁ with heap := h', toks := tk' } ∧ Fr h₀ L h' m ∧ News h₀ L h' led
theorem CIEnd.intro {led led' : List (Addr × Obj)} {a a' : Int} {t : Tok} {s₁ : Shared} {h' : Heap} {tk' : Nat}
    (F : Fr h₀ L h' m) (N : News h₀ L h' led') (hs : ∀ p ∈ led, p ∈ led') (ha : Ob (a' = a)) : CIEnd h₀ L m led a s₁ (.int a' t) { s₁ with heap := h', toks := tk' } :=
  ⟨t, h', tk', by rw [show a' = a from ha], rfl, F, fun p hp => N p (hs p hp)⟩
theorem lci_ind {elt : Expr} {x : Str} {scope : Scope} {cl : List (Str × Addr)} {S : List (Addr × Obj) → Prop} {P : Nat → Value → Prop} {Fin : List Value → List (Addr × Obj) → Prop} {nw : List (Addr × Obj)} (n : Nat) (f : Nat → Int)
    (hS : S nw)
    (turn : ∀ i v ys I oI C oC D m₂ (s₁ : Shared) (E' : Value → Shared → Prop), (∃ h tk, s₁ = { s with heap := h, toks := tk }) → i < n → P i v → NsObj oC m₂ → m₂ x = some v → Fr h₀ L s₁.heap m → News h₀ L s₁.heap ((I, oI) :: (C, oC) :: (D, lst ys) :: nw) →
      wpAny (model prog w) A (eval elt (compEnvC scope cl C env)) (CIEnd h₀ L m ((I, oI) :: (C, oC) :: (D, lst ys) :: nw) (f i) s₁) E' s₁)
    (fin : ∀ ys, IntsAre ys ((List.range n).map f) → Fin ys nw) :
    ∀ (r i : Nat) (ys : List Value), r + i = n → IntsAre ys ((List.range i).map f) → CompRest prog w A h₀ L m env elt x scope cl s S P Fin r i ys nw
  | 0, i, ys, hr, hy => by
    have e : i = n := by omega
    subst e
    exact CompRest.zero (fin ys hy)
  | r + 1, i, ys, hr, hy => by
    refine CompRest.succ fun v I oI C oC D m₂ h tk E' hP hC hx F N off ne => ?_
    refine wpAny_mono (turn i v ys I oI C oC D m₂ { s with heap := h, toks := tk } E' ⟨_, _, rfl⟩ (by omega) hP hC hx F N) (fun z s₂ hz => ?_) fun _ _ e => e
    obtain ⟨t, h', tk', rfl, rfl, F', N'⟩ := hz
    refine CompEnd.intro F' N' nw (fun p hp => hp) off hS ?_
    refine lci_ind n f hS turn fin r (i + 1) _ (by omega) ?_
    rw [List.range_succ, List.map_append]
    exact IntsAre.append hy (.cons _ _ .nil)
/-- a comprehension of whole numbers over a range -/
theorem r_lci_range {elt : Expr} {x : Str} {scope : Scope} {cl : List (Str × Addr)} {Q : Value → Shared → Prop} {r : Addr} {a b : Int} {t u v : Tok} {nw : List (Addr × Obj)} (n : Nat) (f : Nat → Int)
    (hh : A.handled = none) (F : Fr h₀ L s.heap m) (N : News h₀ L s.heap nw) (hr : IsRange s.heap r a b 1 t u v) (hsm : Builtin.Range.small a b 1 = true) (hn : Builtin.Range.rangeSize a b 1 = ((n : Nat) : Int)) (hsz : n ≤ sizeLine)
    (turn : ∀ i v ys I oI C oC D m₂ (s₁ : Shared) (E' : Value → Shared → Prop), (∃ h tk, s₁ = { s with heap := h, toks := tk }) → i < n → (∃ t, v = .int (a + (i : Int)) t) → NsObj oC m₂ → m₂ x = some v → Fr h₀ L s₁.heap m → News h₀ L s₁.heap ((I, oI) :: (C, oC) :: (D, lst ys) :: nw) →
      wpAny (model prog w) A (eval elt (compEnvC scope cl C env)) (CIEnd h₀ L m ((I, oI) :: (C, oC) :: (D, lst ys) :: nw) (f i) s₁) E' s₁)
    (ret : ∀ D ys h tk, IntsAre ys ((List.range n).map f) → (∀ p ∈ nw, p.1 ≠ D) → Fr h₀ L h m → News h₀ L h ((D, listOf ys.toArray ys.length) :: nw) → Q (.ref D) { s with heap := h, toks := tk }) :
    CompSrc prog w A h₀ L m env elt x scope cl (fun s₂ => FinE h₀ L m s₂ Q) (.ref r) s := by
  refine CompSrc.range hh F N hr hsm hn hsz fun g => ?_
  refine lci_ind (s := { s with heap := g }) (Fin := FinE h₀ L m { s with heap := g } Q) n f trivial turn ?_ n 0 [] rfl .nil
  intro ys hy D h tk F' N' off
  refine ret D ys h tk hy ?_ F' N'
  clear N N' ret turn
  induction nw with
  | nil => exact fun p hp => (nomatch hp)
  | cons z r ih =>
    intro p hp
    rcases List.mem_cons.mp hp with rfl | hp
    · exact off.1
    · exact ih off.2 p hp
/-- a comprehension of whole numbers over a list -/
theorem r_lci_list {elt : Expr} {x : Str} {scope : Scope} {cl : List (Str × Addr)} {Q : Value → Shared → Prop} {q : Addr} {nw : List (Addr × Obj)} {vs : List Value} {kk : Nat} (f : Nat → Int)
    (hh : A.handled = none) (F : Fr h₀ L s.heap m) (N : News h₀ L s.heap nw) (hq : (q, listOf vs.toArray kk) ∈ nw) (hsz : vs.length ≤ sizeLine)
    (turn : ∀ i v ys I oI C oC D m₂ (s₁ : Shared) (E' : Value → Shared → Prop), (∃ h tk, s₁ = { s with heap := h, toks := tk }) → i < vs.length → vs.toArray[i]? = some v → NsObj oC m₂ → m₂ x = some v → Fr h₀ L s₁.heap m → News h₀ L s₁.heap ((I, oI) :: (C, oC) :: (D, lst ys) :: nw) →
      wpAny (model prog w) A (eval elt (compEnvC scope cl C env)) (CIEnd h₀ L m ((I, oI) :: (C, oC) :: (D, lst ys) :: nw) (f i) s₁) E' s₁)
    (ret : ∀ D ys h tk, IntsAre ys ((List.range vs.length).map f) → (∀ p ∈ nw, p.1 ≠ D) → Fr h₀ L h m → News h₀ L h ((D, listOf ys.toArray ys.length) :: nw) → Q (.ref D) { s with heap := h, toks := tk }) :
    CompSrc prog w A h₀ L m env elt x scope cl (fun s₂ => FinE h₀ L m s₂ Q) (.ref q) s := by
  refine CompSrc.ledger hh F N hq (by rw [List.size_toArray]; exact hsz) fun g => ?_
  rw [List.size_toArray]
  refine lci_ind (s := { s with heap := g }) (Fin := FinE h₀ L m { s with heap := g } Q) vs.length f (.inr ⟨_, hq, rfl, kk, rfl⟩) turn ?_ vs.length 0 [] rfl .nil
  intro ys hy D h tk F' N' off
  refine ret D ys h tk hy ?_ F' N'
  clear N N' ret turn hq
  induction nw with
  | nil => exact fun p hp => (nomatch hp)
  | cons z r ih =>
    intro p hp
    rcases List.mem_cons.mp hp with rfl | hp
    · exact off.1
    · exact ih off.2 p hp
end
/-! the end of a turn of the terms -/
theorem due_end {T W news : List (Addr × Obj)} {q c1 c2 : Addr} {o1 o2 : Obj} {tl tl8 : List TT} {x : TT} (hl : (q, listOf ((tl.map TT.r ++ [x.r]) ++ tl8.map TT.r).toArray 0) ∈ W) (h1 : (c1, o1) ∈ W) (h2 : (c2, o2) ∈ W)
    (hT : T = tl.map TT.e ++ news) (ht : ∀ p ∈ T, p ∈ W) (hx : x.e ∈ W) (h8 : ∀ y ∈ tl8, y.e ∈ W) :
    ∀ p ∈ (q, listOf ((tl ++ [x] ++ tl8).map TT.r).toArray 0) :: (c1, o1) :: (c2, o2) :: (tl ++ [x] ++ tl8).map TT.e ++ news, p ∈ W := by
  intro p hp
  rcases List.mem_cons.mp hp with rfl | hp
  · rw [List.map_append, List.map_append]; exact hl
  rcases List.mem_cons.mp hp with rfl | hp
  · exact h1
  rcases List.mem_cons.mp hp with rfl | hp
  · exact h2
  rcases List.mem_append.mp hp with hp | hp
  · obtain ⟨y, hy, rfl⟩ := List.mem_map.mp hp
    rcases List.mem_append.mp hy with hy | hy
    · rcases List.mem_append.mp hy with hy | hy
      · exact ht _ (hT ▸ List.mem_append_left _ (List.mem_map_of_mem hy))
      · rw [List.mem_singleton.mp hy]; exact hx
    · exact h8 y hy
  · exact ht _ (hT ▸ List.mem_append_right _ hp)
theorem due_kind {it : Obj} {q c1 c2 : Addr} {o1 o2 : Obj} {a : Array Value} {k : Nat} {tl : List TT} {v1 v2 : Option Value} (hi : itKind it) (h1 : o1.data = .cell v1) (h2 : o2.data = .cell v2) :
    ∀ p ∈ (q, listOf a k) :: (c1, o1) :: (c2, o2) :: tl.map TT.e, p.2 ≠ it := by
  intro p hp
  rcases List.mem_cons.mp hp with rfl | hp
  · exact ne_it_list hi rfl
  rcases List.mem_cons.mp hp with rfl | hp
  · exact ne_it_cell hi h1
  rcases List.mem_cons.mp hp with rfl | hp
  · exact ne_it_cell hi h2
  · obtain ⟨y, hy, rfl⟩ := List.mem_map.mp hp
    exact ne_it_tuple hi rfl
theorem due_val {i : Nat} {xs : List Nat} {tl tl8 : List TT} {x : TT} (hi : i < xs.length) (h : tl.map TT.v = termsN (xs.take i)) (h8 : tl8.map TT.v = (tl.map TT.v).map (fun p => (-2 * p.1, Builtin.bitOr p.2 ((xs.getD i 0 : Nat) : Int))))
    (ha : x.a = 1) (hb : x.b = ((xs.getD i 0 : Nat) : Int)) : (tl ++ [x] ++ tl8).map TT.v = termsN (xs.take (i + 1)) := by
  rw [take_snoc xs 0 hi, termsN_snoc, List.map_append, List.map_append, h8, h]
  congr 2
  show [x.v] = _
  rw [TT.v, ha, hb]
theorem terms_sm (xs : List Nat) : ∀ q ∈ termsN xs, q.1.natAbs ≤ 2 ^ xs.length := by
  refine snoc_ind (P := fun xs => ∀ q ∈ termsN xs, q.1.natAbs ≤ 2 ^ xs.length) (fun q h => (nomatch h)) (fun xs x ih => ?_) xs
  intro q hq
  rw [termsN_snoc] at hq
  have hp := Nat.two_pow_pos xs.length
  have e : (xs ++ [x]).length = xs.length + 1 := by simp
  rw [e, Nat.pow_succ]
  rcases List.mem_append.mp hq with hq | hq
  · rcases List.mem_append.mp hq with hq | hq
    · have := ih q hq; omega
    · rw [List.mem_singleton.mp hq]; show (1 : Int).natAbs ≤ _; rw [Int.natAbs_one]; omega
  · obtain ⟨p, hp', rfl⟩ := List.mem_map.mp hq
    have := ih p hp'
    show (-2 * p.1).natAbs ≤ _
    omega
theorem due_sm {xs : List Nat} {i : Nat} {tl : List TT} {y : TT} (hx : xs.length ≤ 6) (h : tl.map TT.v = termsN (xs.take i)) (hy : y ∈ tl) : Sm y.a := by
  have h1 := terms_sm (xs.take i) y.v (h ▸ List.mem_map_of_mem hy)
  have h2 : (xs.take i).length ≤ 6 := by rw [List.length_take]; omega
  have h3 : 2 ^ (xs.take i).length ≤ 2 ^ 6 := Nat.pow_le_pow_right (by decide) h2
  refine sm_of_lt (n := 7) ?_ (by decide)
  have h4 : y.a.natAbs ≤ 2 ^ (xs.take i).length := h1
  omega
end Mine
namespace Mine
theorem swap12 {α : Type} {a b : α} {l : List α} : ∀ p ∈ b :: a :: l, p ∈ a :: b :: l := by
  intro p hp
  rcases List.mem_cons.mp hp with rfl | hp
  · exact List.mem_cons_of_mem _ List.mem_cons_self
  rcases List.mem_cons.mp hp with rfl | hp
  · exact List.mem_cons_self
  · exact List.mem_cons_of_mem _ (List.mem_cons_of_mem _ hp)
/-- how many of the lowest bits are set, as the program asks -/
def popI (c : Nat) (h : Int) : Int := ((List.range c).map fun (k : Nat) => Builtin.bitAnd (h.fdiv (2 ^ (0 + (k : Int)).toNat)) 1).sum
def dueI (c : Nat) (ts : List (Int × Int)) : Int := (ts.map fun p => p.1 * 2 ^ ((c : Int) - popI c p.2).toNat).sum
theorem tt_at {tl : List TT} {i : Nat} {v : Value} (h : (tl.map TT.r)[i]? = some v) : ∃ y, tl[i]? = some y ∧ y ∈ tl ∧ v = y.r := by
  rw [List.getElem?_map] at h
  cases e : tl[i]? with
  | none => rw [e] at h; cases h
  | some y => rw [e] at h; exact ⟨y, rfl, List.mem_of_getElem? e, (Option.some.inj h).symm⟩
end Mine
namespace Mine
/-- the rest of the frame stands: from the form with one name more -/
theorem same_of {ps : List (Str × Value)} {stored : List Str} {m' m₀ : Str → Option Value} (x : Str) (h : ∀ z, z ≠ x → (∀ p ∈ ps, z ≠ p.1) → stored.contains z = false → m' z = m₀ z)
    (hx : (∃ v, (x, v) ∈ ps) ∨ stored.contains x = true) : ∀ z, (∀ p ∈ ps, z ≠ p.1) → stored.contains z = false → m' z = m₀ z := by
  intro z h1 h2
  refine h z ?_ h1 h2
  rintro rfl
  rcases hx with ⟨v, hv⟩ | hx
  · exact h1 _ hv rfl
  · rw [hx] at h2; cases h2
end Mine
namespace Mine
section
variable {prog : Program} {w : World} {A : Around} {E : Value → Shared → Prop} {s : Shared} {h₀ : Heap} {L t : Addr} {m : Str → Option Value} {env : Env} {nw : List (Addr × Obj)} {Q : Unit → Shared → Prop} {a b : Value} {k : Nat}
theorem r_unpair {x y : Str} {px py pos : Pos} {x1} (hh : A.handled = none) (F : Fr h₀ L s.heap m) (N : News h₀ L s.heap nw) (ht : (t, ({ cls := .type "tuple", data := .seq #[a, b] k } : Obj)) ∈ nw)
    (h : ∀ h', Fr h₀ L h' m → News h₀ L h' nw → wpAny (model prog w) A (storeName env x a) (fun _ s₂ => wpAny (model prog w) A (storeName env y b) Q E s₂) E { s with heap := h' }) :
    wpAny (model prog w) A (assign (.Tuple [.Name x px, .Name y py] x1 pos) env (.ref t)) Q E s := by
  refine assign_Tuple_tuple hh ⟨_, (N _ ht).1, rfl, k, rfl⟩ rfl rfl fun h' he => ?_
  have he' : ∀ b o, s.heap.get? b = some o → h'.get? b = some o := fun b o e => he b o (Nat.ne_of_lt (Heap.lt_size e)) e
  refine assignInOrder_cons (wpAny_assign_Name ?_)
  refine wpAny_mono (h h' (F.keeps he') (fun p hp => ⟨he' _ _ (N p hp).1, (N p hp).2⟩)) (fun _ s₂ h₂ => ?_) fun _ _ e => e
  exact assignInOrder_cons (wpAny_assign_Name (wpAny_mono h₂ (fun _ s₃ h₃ => assignInOrder_nil h₃) fun _ _ e => e))
end
end Mine
namespace Mine
theorem bit1_bd (x : Int) : 0 ≤ Builtin.bitAnd x 1 ∧ Builtin.bitAnd x 1 ≤ 1 := by
  rw [bit_one]; omega
theorem sum_bd (f : Nat → Int) (hf : ∀ k, 0 ≤ f k ∧ f k ≤ 1) : ∀ l : List Nat, 0 ≤ (l.map f).sum ∧ (l.map f).sum ≤ (l.length : Int)
  | [] => by simp
  | k :: r => by
    have h1 := hf k
    have h2 := sum_bd f hf r
    simp only [List.map_cons, List.sum_cons, List.length_cons]
    omega
theorem pop_bd (c : Nat) (h : Int) : 0 ≤ ((List.range c).map fun (k : Nat) => Builtin.bitAnd (h.fdiv (2 ^ (0 + (k : Int)).toNat)) 1).sum ∧ ((List.range c).map fun (k : Nat) => Builtin.bitAnd (h.fdiv (2 ^ (0 + (k : Int)).toNat)) 1).sum ≤ (c : Int) := by
  have := sum_bd _ (fun k => bit1_bd (h.fdiv (2 ^ (0 + (k : Int)).toNat))) (List.range c)
  rw [List.length_range] at this
  exact this
theorem sm_pow2 {n : Nat} (h : n ≤ 99999) : Sm ((2 : Int) ^ n) :=
  sm_nn (n := n + 1) (Int.le_of_lt (pow2_pos n)) (by have := pow2_pos n; rw [Int.pow_succ]; omega) (by omega)
theorem dueI_snoc (c : Nat) (ts : List (Int × Int)) (p : Int × Int) : dueI c (ts ++ [p]) = dueI c ts + p.1 * 2 ^ ((c : Int) - popI c p.2).toNat := by
  unfold dueI; simp
theorem due_add {c i : Nat} {tl : List TT} {y : TT} {tot : Int} (h : tot = dueI c ((tl.map TT.v).take i)) (hy : tl[i]? = some y) :
    tot + y.a * 2 ^ ((c : Int) - ((List.range c).map fun (k : Nat) => Builtin.bitAnd (y.b.fdiv (2 ^ (0 + (k : Int)).toNat)) 1).sum).toNat = dueI c ((tl.map TT.v).take (i + 1)) := by
  rw [List.take_add_one, List.getElem?_map, hy, Option.map_some, Option.toList_some, dueI_snoc, h]
  rfl
theorem due_fin {c n : Nat} {tl : List TT} {xs : List Nat} {tot : Int} (h : tot = dueI c ((tl.map TT.v).take (tl.map TT.r).length)) (ht : tl.map TT.v = termsN (xs.take n)) (hn : n = xs.length) : dueI c (termsN xs) = tot := by
  rw [h, List.length_map, List.take_of_length_le (by rw [List.length_map]; exact Nat.le_refl _), ht, hn, List.take_length]
theorem due_len {xs : List Nat} {i : Nat} {tl tl8 : List TT} {g : Int × Int → Int × Int} (hx : xs.length ≤ 6) (h : tl.map TT.v = termsN (xs.take i)) (h8 : tl8.map TT.v = (tl.map TT.v).map g) : tl.length ≤ 63 ∧ tl8.length ≤ 63 := by
  have h1 := congrArg List.length h
  have h2 := congrArg List.length h8
  rw [List.length_map, termsN_len] at h1
  rw [List.length_map, List.length_map, List.length_map] at h2
  have h3 : (xs.take i).length ≤ 6 := by rw [List.length_take]; omega
  have h4 : 2 ^ (xs.take i).length ≤ 2 ^ 6 := Nat.pow_le_pow_right (by decide) h3
  omega
theorem due_sz {n : Nat} (h : n ≤ 1000) : n ≤ sizeLine := Nat.le_trans h (Nat.le_of_ble_eq_true rfl)
end Mine
end
section
open PySem PySem.W PyProof.Rows
namespace Mine
/-! what the law's body draws -/
theorem cc_of (S : Int) : ∃ cc : Nat, 13 - S.fmod 13 = (cc : Int) ∧ 1 ≤ cc ∧ cc ≤ 13 := by
  have h1 : S.fmod 13 = S % 13 := fmod_pos (by decide)
  refine ⟨(13 - S.fmod 13).toNat, ?_, ?_, ?_⟩ <;> omega
theorem pow_of {c : Int} {cc : Nat} (h : c = (cc : Int)) : (2 : Int) ^ c.toNat = ((2 ^ cc : Nat) : Int) := by
  rw [h, Int.toNat_natCast, cast_pow2]
theorem chosen_of {c : Int} {cc : Nat} (h : c = (cc : Int)) (l : List Int) :
    l.map (fun k => k.fmod (2 ^ c.toNat)) = (l.map fun k => (k.fmod (2 ^ c.toNat)).toNat).map (fun (x : Nat) => (x : Int)) := by
  rw [List.map_map]
  refine List.map_congr_left fun k _ => ?_
  have hp := pow2_pos cc
  rw [pow_of h]
  have h2 : (0 : Int) ≤ ((2 ^ cc : Nat) : Int) := Int.natCast_nonneg _
  have h3 : 0 ≤ k.fmod ((2 ^ cc : Nat) : Int) := by
    rw [fmod_pos h2]
    exact Int.emod_nonneg _ (by rw [cast_pow2]; omega)
  show _ = (((k.fmod ((2 ^ cc : Nat) : Int)).toNat : Nat) : Int)
  omega
theorem pylong_small {a b : Int} (hb : b.natAbs < 2 ^ 60) : Builtin.divisionGoesByPylong a b = false := by
  unfold Builtin.divisionGoesByPylong
  dsimp only
  by_cases h0 : b = 0
  · subst h0; simp
  · have h1 : b.natAbs ≠ 0 := fun h => h0 (Int.natAbs_eq_zero.mp h)
    have h2 : b.natAbs.log2 < 60 := (Nat.log2_lt h1).mpr hb
    have h3 : (b == 0) = false := by simpa using h0
    simp only [h3, Bool.false_eq_true, if_false]
    split <;> simp <;> omega
end Mine
namespace Mine
/-- the numbers drawn, and the three behind them -/
def chosenN (cc : Nat) (ns : List Int) : List Nat := (List.take 3 ns ++ [5, 3, 4104]).map fun (k : Int) => (k.fmod ((2 ^ cc : Nat) : Int)).toNat
theorem law_cc {vs : List Value} {ns : List Int} (_ : IntsAre vs ns) : ∃ cc : Nat, 13 - (List.take 3 ns).sum.fmod 13 = (cc : Int) ∧ 1 ≤ cc ∧ cc ≤ 13 := cc_of _
theorem law_xs {vs : List Value} {ns : List Int} (_ : IntsAre vs ns) {cc : Nat} (h : 13 - (List.take 3 ns).sum.fmod 13 = (cc : Int)) :
    List.map (fun k => k.fmod (2 ^ (13 - (List.take 3 ns).sum.fmod 13).toNat)) (List.take 3 ns ++ [5, 3, 4104]) = (chosenN cc ns).map (fun (x : Nat) => (x : Int)) := by
  rw [chosen_of h, pow_of h]; rfl
theorem law_len {cc : Nat} {ns : List Int} : (chosenN cc ns).length ≤ 6 := by
  unfold chosenN
  rw [List.length_map, List.length_append, List.length_take]
  show min 3 _ + 3 ≤ 6
  omega
end Mine
namespace Mine
theorem law_full {S : Int} {cc : Nat} (h : 13 - S.fmod 13 = (cc : Int)) : (1 : Int) * 2 ^ ((2 : Int) ^ (13 - S.fmod 13).toNat).toNat - 1 = ((fullN cc : Nat) : Int) := by
  rw [pow_of h, Int.toNat_natCast, Int.one_mul]
  unfold fullN
  rw [Int.natCast_sub (Nat.two_pow_pos _), cast_pow2]; rfl
theorem law_cm {S : Int} {cc : Nat} (h : 13 - S.fmod 13 = (cc : Int)) (h1 : 1 ≤ cc) (h13 : cc ≤ 13) :
    CmPre cc ((1 : Int) * 2 ^ ((2 : Int) ^ (13 - S.fmod 13).toNat + 25 + (S.fdiv 13).fmod 16).toNat - (1 + 2 * (if S < 0 then -S else S).fmod 1000)) := by
  have e1 : (S.fdiv 13).fmod 16 = (S.fdiv 13) % 16 := fmod_pos (by decide)
  have e2 : (if S < 0 then -S else S).fmod 1000 = (if S < 0 then -S else S) % 1000 := fmod_pos (by decide)
  rw [e1, e2, pow_of h]
  obtain ⟨r, hr, hr16⟩ : ∃ r : Nat, (S.fdiv 13) % 16 = (r : Int) ∧ r < 16 := ⟨((S.fdiv 13) % 16).toNat, by omega, by omega⟩
  obtain ⟨d, hd0, hd1⟩ : ∃ d : Int, (if S < 0 then -S else S) % 1000 = d ∧ 0 ≤ d ∧ d < 1000 := ⟨_, rfl, by omega, by omega⟩
  rw [hr, hd0]
  have e3 : (((2 ^ cc : Nat) : Int) + 25 + (r : Int)).toNat = 2 ^ cc + 25 + r := by
    generalize 2 ^ cc = z
    omega
  rw [e3, Int.one_mul]
  have h4 := size_le h13
  have key : ∀ z : Nat, z ≤ 8192 → (2 : Int) ^ z ≤ 2 ^ (z + 25 + r) - (1 + 2 * d) ∧ (2 : Int) ^ (z + 25 + r) - (1 + 2 * d) < 2 ^ 20000 := by
    intro z hz
    have h5 : (2 : Int) ^ (z + 25) ≤ 2 ^ (z + 25 + r) := pow2_le (by omega)
    have h6 : (2 : Int) ^ (z + 25 + r) ≤ 2 ^ 20000 := pow2_le (by omega)
    have h7 : (2 : Int) ^ (z + 25) = 2 ^ z * 2 ^ 25 := Int.pow_add ..
    have h8 := pow2_pos z
    have h9 : (2 : Int) ^ 25 = 33554432 := by decide
    rw [h9] at h7
    generalize (2 : Int) ^ 20000 = W at h6 ⊢
    generalize (2 : Int) ^ z = B at h7 h8 ⊢
    generalize (2 : Int) ^ (z + 25 + r) = A at h5 h6 ⊢
    generalize (2 : Int) ^ (z + 25) = C at h5 h7
    omega
  exact ⟨h1, h13, (key _ h4).1, (key _ h4).2⟩
end Mine
end
section
open PySem PySem.W PyProof.Rows
namespace Mine
/-! the places of a set's table -/
def Asc (xs : Array Nat) : Prop := xs.toList.Pairwise (· < ·)
theorem asc_get {xs : Array Nat} (h : Asc xs) {i j : Nat} (hij : i < j) (hj : j < xs.size) : xs.getD i 0 < xs.getD j 0 := by
  have h1 : i < xs.toList.length := by rw [Array.length_toList]; omega
  have h2 : j < xs.toList.length := by rw [Array.length_toList]; omega
  have := List.pairwise_iff_getElem.mp h i j h1 h2 hij
  have hi : i < xs.size := Nat.lt_trans hij hj
  rw [Array.getElem_toList, Array.getElem_toList] at this
  simp only [Array.getD, hi, hj, dif_pos, Array.getInternal_eq_getElem]
  exact this
theorem below_go (xs : Array Nat) (j : Nat) (h : Asc xs) : ∀ fuel lo hi, hi ≤ xs.size → lo ≤ hi → hi - lo ≤ fuel → (∀ i, i < lo → xs.getD i 0 < j) → (∀ i, hi ≤ i → i < xs.size → j ≤ xs.getD i 0) →
    SetTable.below.go xs j fuel lo hi ≤ xs.size ∧ (∀ i, i < SetTable.below.go xs j fuel lo hi → xs.getD i 0 < j) ∧ (∀ i, SetTable.below.go xs j fuel lo hi ≤ i → i < xs.size → j ≤ xs.getD i 0)
  | 0, lo, hi, h1, h2, h3, h4, h5 => by
    have e : lo = hi := by omega
    subst e
    exact ⟨h1, h4, h5⟩
  | fuel + 1, lo, hi, h1, h2, h3, h4, h5 => by
    unfold SetTable.below.go
    by_cases hlt : lo < hi
    · rw [if_pos hlt]
      have hms : (lo + hi) / 2 < xs.size := by omega
      have em : xs.getD ((lo + hi) / 2) j = xs.getD ((lo + hi) / 2) 0 := by simp only [Array.getD, hms, dif_pos]
      dsimp only
      rw [em]
      by_cases hm : xs.getD ((lo + hi) / 2) 0 < j
      · rw [if_pos hm]
        refine below_go xs j h fuel _ _ h1 (by omega) (by omega) (fun i hi' => ?_) h5
        rcases Nat.lt_or_ge i ((lo + hi) / 2) with h6 | h6
        · exact Nat.lt_trans (asc_get h h6 (by omega)) hm
        · have : i = (lo + hi) / 2 := by omega
          rw [this]; exact hm
      · rw [if_neg hm]
        refine below_go xs j h fuel _ _ (by omega) (by omega) (by omega) h4 (fun i hi' hs => ?_)
        rcases Nat.lt_or_ge ((lo + hi) / 2) i with h6 | h6
        · exact Nat.le_of_lt (Nat.lt_of_le_of_lt (Nat.not_lt.mp hm) (asc_get h h6 hs))
        · have : i = (lo + hi) / 2 := by omega
          rw [this]; exact Nat.not_lt.mp hm
    · rw [if_neg hlt]
      have e : lo = hi := by omega
      subst e
      exact ⟨h1, h4, h5⟩
theorem below_spec {xs : Array Nat} (h : Asc xs) (j : Nat) : SetTable.below xs j ≤ xs.size ∧ (∀ i, i < SetTable.below xs j → xs.getD i 0 < j) ∧ (∀ i, SetTable.below xs j ≤ i → i < xs.size → j ≤ xs.getD i 0) :=
  below_go xs j h _ _ _ (Nat.le_refl _) (Nat.zero_le _) (Nat.le_refl _) (fun i hi => absurd hi (Nat.not_lt_zero i)) fun i hi hs => absurd hs (Nat.not_lt.mpr hi)
theorem below_eq {xs : Array Nat} (h : Asc xs) {j p : Nat} (h1 : p ≤ xs.size) (h2 : ∀ i, i < p → xs.getD i 0 < j) (h3 : ∀ i, p ≤ i → i < xs.size → j ≤ xs.getD i 0) : SetTable.below xs j = p := by
  obtain ⟨a1, a2, a3⟩ := below_spec h j
  rcases Nat.lt_trichotomy (SetTable.below xs j) p with h4 | h4 | h4
  · have := h2 _ h4
    have := a3 _ (Nat.le_refl _) (by omega)
    omega
  · exact h4
  · have := a2 _ h4
    have := h3 _ (Nat.le_refl _) (by omega)
    omega
/-- the place behind the one met last -/
theorem below_next {xs : Array Nat} (h : Asc xs) {i : Nat} (hi : i < xs.size) : SetTable.below xs (xs.getD i 0 + 1) = i + 1 := by
  refine below_eq h hi (fun k hk => ?_) fun k hk hs => asc_get h hk hs
  rcases Nat.lt_or_ge k i with h1 | h1
  · have := asc_get h h1 hi
    omega
  · have : k = i := by omega
    rw [this]; exact Nat.lt_succ_self _
theorem below_zero {xs : Array Nat} (h : Asc xs) : SetTable.below xs 0 = 0 :=
  below_eq h (Nat.zero_le _) (fun i hi => absurd hi (Nat.not_lt_zero i)) fun _ _ _ => Nat.zero_le _
theorem getD_mem {xs : Array Nat} {i : Nat} (hi : i < xs.size) : xs.getD i 0 ∈ xs.toList := by
  simp [Array.getD, hi]
theorem asc_insert {xs : Array Nat} (h : Asc xs) {j : Nat} (hj : j ∉ xs.toList) : Asc (SetTable.insertAt xs (SetTable.below xs j) j) := by
  obtain ⟨a1, a2, a3⟩ := below_spec h j
  unfold Asc
  rw [SetTable.toList_insertAt]
  have e : xs.toList = xs.toList.take (SetTable.below xs j) ++ xs.toList.drop (SetTable.below xs j) := (List.take_append_drop _ _).symm
  have h' := h
  unfold Asc at h'
  rw [e, List.pairwise_append] at h'
  obtain ⟨b1, b2, b3⟩ := h'
  have c1 : ∀ x ∈ xs.toList.take (SetTable.below xs j), x < j := by
    intro x hx
    obtain ⟨i, hi, rfl⟩ := List.getElem_of_mem hx
    rw [List.length_take, Array.length_toList] at hi
    have := a2 i (by omega)
    have hs : i < xs.size := by omega
    simp only [Array.getD, hs, dif_pos, Array.getInternal_eq_getElem] at this
    rw [List.getElem_take, Array.getElem_toList]
    exact this
  have c2 : ∀ x ∈ xs.toList.drop (SetTable.below xs j), j < x := by
    intro x hx
    have hm : x ∈ xs.toList := List.mem_of_mem_drop hx
    obtain ⟨i, hi, rfl⟩ := List.getElem_of_mem hx
    rw [List.length_drop, Array.length_toList] at hi
    have := a3 (SetTable.below xs j + i) (by omega) (by omega)
    have hs : SetTable.below xs j + i < xs.size := by omega
    rw [List.getElem_drop] at hm ⊢
    simp only [Array.getD, hs, dif_pos, Array.getInternal_eq_getElem] at this
    rw [Array.getElem_toList] at hm ⊢
    rcases Nat.lt_or_ge j (xs[SetTable.below xs j + i]) with h6 | h6
    · exact h6
    · have h7 : j = xs[SetTable.below xs j + i] := by omega
      rw [← h7] at hm
      exact absurd hm hj
  rw [List.pairwise_append]
  refine ⟨b1, List.pairwise_cons.mpr ⟨c2, b2⟩, fun x hx y hy => ?_⟩
  rcases List.mem_cons.mp hy with rfl | hy
  · exact c1 x hx
  · exact b3 x hx y hy
theorem toList_erase {α : Type} (xs : Array α) (p : Nat) : (SetTable.eraseAt xs p).toList = xs.toList.eraseIdx p := by
  simp [SetTable.eraseAt, List.extract_eq_take_drop, List.take_of_length_le, List.eraseIdx_eq_take_drop_succ]
theorem asc_erase {xs : Array Nat} (h : Asc xs) (p : Nat) : Asc (SetTable.eraseAt xs p) := by
  unfold Asc
  rw [toList_erase]
  exact List.Pairwise.sublist (List.eraseIdx_sublist ..) h
theorem asc_range (n : Nat) : Asc (Array.range n) := by
  unfold Asc
  rw [Array.toList_range]
  exact List.pairwise_lt_range
theorem live_sub (f : Nat → Option Nat) : ∀ l : List Nat, ((l.filterMap fun j => (f j).map (j, ·)).map (·.1)).Sublist l
  | [] => .slnil
  | a :: r => by
    cases e : f a with
    | none => rw [List.filterMap_cons_none (by simp [e])]; exact .cons _ (live_sub f r)
    | some k => rw [List.filterMap_cons_some (b := (a, k)) (by simp [e])]; exact .cons_cons _ (live_sub f r)
theorem asc_laid {mask finger moves : Nat} {led plain : Bool} {hs : Array Int} {t : SetTable} {o : Array Nat} (h : SetTable.laid mask finger moves led plain hs = some (t, o)) : Asc t.place ∧ t.led = led := by
  unfold SetTable.laid at h
  cases e : SetTable.layClean mask hs with
  | none => rw [e] at h; cases h
  | some owner =>
    rw [e] at h
    have h := Option.some.inj h
    rw [← (Prod.mk.inj h).1]
    refine ⟨?_, rfl⟩
    unfold Asc
    exact List.Pairwise.sublist (live_sub _ _) List.pairwise_lt_range
theorem slot_off {t : SetTable} (h : Asc t.place) {j : Nat} (hj : ∀ i, t.slot j ≠ .live i) : j ∉ t.place.toList := by
  intro hm
  obtain ⟨i, hi, e⟩ := List.getElem_of_mem hm
  rw [Array.length_toList] at hi
  rw [Array.getElem_toList] at e
  have hb : SetTable.below t.place j = i := by
    refine below_eq h (Nat.le_of_lt hi) (fun k hk => ?_) fun k hk hs => ?_
    · have := asc_get h hk hi
      simpa [Array.getD, hi, e] using this
    · rcases Nat.lt_or_ge i k with h1 | h1
      · have := asc_get h h1 hs
        have e2 : t.place.getD i 0 = j := by simp [Array.getD, hi, e]
        omega
      · have : k = i := by omega
        subst this
        simp [Array.getD, hi, e]
  refine hj i ?_
  unfold SetTable.slot
  rw [hb]
  simp [hi, e]
theorem probe_free {t : SetTable} {hashAt : Nat → Int} {h : Int} {j : Nat} {dm : Option Nat} : ∀ fuel (p : SetTable.Probe), (∀ d, p.dummy = some d → ∀ i, t.slot d ≠ .live i) →
    SetTable.probe.go t hashAt h fuel p = some (.empty j dm) → (∀ i, t.slot j ≠ .live i) ∧ ∀ d, dm = some d → ∀ i, t.slot d ≠ .live i
  | 0, p, _, e => by cases e
  | fuel + 1, p, hd, e => by
    have adv : ∀ q : SetTable.Probe, (t.advance q).dummy = q.dummy := by
      intro q
      unfold SetTable.advance
      split <;> rfl
    unfold SetTable.probe.go at e
    cases hs : t.slot p.j with
    | empty =>
      rw [hs] at e
      obtain ⟨rfl, rfl⟩ := SetTable.Met.empty.inj (Option.some.inj e)
      exact ⟨fun i => (by rw [hs]; intro hc; cases hc), hd⟩
    | dummy =>
      rw [hs] at e
      refine probe_free fuel _ (fun d hd' => ?_) e
      rw [adv] at hd'
      rw [← Option.some.inj hd']
      intro i; rw [hs]; intro hc; cases hc
    | live i =>
      rw [hs] at e
      dsimp only at e
      split at e
      · cases e
      · exact probe_free fuel _ (fun d hd' => (by rw [adv] at hd'; exact hd d hd')) e
theorem free_off {t : SetTable} (hA : Asc t.place) {h : Int} {j : Nat} {b : Bool} (e : t.freeSlot h = some (j, b)) : j ∉ t.place.toList := by
  unfold SetTable.freeSlot at e
  split at e
  · rename_i j' dm hp
    have e := (Prod.mk.inj (Option.some.inj e)).1
    unfold SetTable.probe at hp
    obtain ⟨h1, h2⟩ := probe_free _ _ (fun d hd => by cases hd) hp
    cases dm with
    | none => rw [← e]; exact slot_off hA h1
    | some d => rw [← e]; exact slot_off hA (h2 d rfl)
  · cases e
theorem orStandIn_asc {t : SetTable} (hA : Asc t.place) (n : Nat) : Asc (t.orStandIn n).place ∧ (t.orStandIn n).led = t.led := by
  unfold SetTable.orStandIn
  split
  · exact ⟨hA, rfl⟩
  · exact ⟨asc_range _, rfl⟩
theorem layNew_asc {t : SetTable} (hA : Asc t.place) (es : Array (Int × Value)) (h : Int) (x : Value) : Asc (layNew t es h x).2.1.place ∧ (layNew t es h x).2.1.led = t.led := by
  unfold layNew
  split
  · rename_i slot d hs
    have h1 : Asc (t.put slot).1.place := asc_insert hA (free_off hA hs)
    exact orStandIn_asc h1 _
  · exact ⟨asc_range _, rfl⟩
theorem relayAll_asc (t : SetTable) (es : Array (Int × Value)) (wanted : Nat) : Asc (relayAll t es wanted).2.1.place ∧ (relayAll t es wanted).2.1.led = t.led := by
  unfold relayAll
  split
  · rename_i t' order hr
    have := asc_laid hr
    dsimp only
    split
    · exact this
    · exact ⟨asc_range _, rfl⟩
  · exact ⟨asc_range _, rfl⟩
theorem drop_asc {t : SetTable} (hA : Asc t.place) (i : Nat) : Asc (t.drop i).place ∧ (t.drop i).led = t.led := by
  unfold SetTable.drop
  split
  · exact ⟨asc_erase hA i, rfl⟩
  · exact ⟨hA, rfl⟩
theorem fits_iff (t : SetTable) (n : Nat) : t.fits n = true ↔ t.place.size = n ∧ t.place.size + t.dummies.size ≤ t.mask := by
  unfold SetTable.fits SetTable.fill
  rw [Bool.and_eq_true, beq_iff_eq]
  exact and_congr Iff.rfl decide_eq_true_iff
theorem drop_fits {t : SetTable} {n i : Nat} (hf : t.fits (n + 1) = true) (hi : i < n + 1) : (t.drop i).fits n = true := by
  rw [fits_iff] at hf
  have hp : i < t.place.size := by omega
  have e : t.drop i = { t with place := SetTable.eraseAt t.place i, dummies := SetTable.insertAt t.dummies (SetTable.below t.dummies t.place[i]) t.place[i] } := by
    unfold SetTable.drop
    rw [Array.getElem?_eq_getElem hp]
  have l1 : (SetTable.eraseAt t.place i).size = t.place.size - 1 := by
    rw [← Array.length_toList, toList_erase, List.length_eraseIdx, Array.length_toList, if_pos hp]
  have l2 : (SetTable.insertAt t.dummies (SetTable.below t.dummies t.place[i]) t.place[i]).size = t.dummies.size + 1 := by
    have := (SetTable.insertAt_perm t.dummies (SetTable.below t.dummies t.place[i]) t.place[i]).length_eq
    rw [Array.length_toList, Array.length_toList, Array.size_push] at this
    exact this
  rw [e, fits_iff]
  dsimp only
  rw [l1, l2]
  omega
end Mine
end
section
open PySem PySem.W PyProof.Rows PySem.Calls PySem.Spec
set_option maxRecDepth 100000
namespace Mine
/-- the law's own order of a set's things -/
def byText (w : World) : Bool := w.params.followText "set-order"
def keyOf : Int × Value → Int
  | (_, .int k _) => k
  | _ => 0
def EntsOf (es : List (Int × Value)) : Prop := ∀ e ∈ es, ∃ k u, e = (hashInt k, Value.int k u)
/-- a set of these whole numbers -/
def SetIs (w : World) (o : Obj) (ks : List Int) : Prop :=
  o.ExactSet ∧ ∃ es ep t, o.data = .set es ep t ∧ EntsOf es.toList ∧ (es.toList.map keyOf).Perm ks ∧ t.fits es.size = true ∧ Asc t.place ∧ (byText w = true ∨ t.led = true)
theorem EntsOf.elems {prog : Program} {w : World} {es : List (Int × Value)} (h : EntsOf es) : ElemsOf (intKind prog w) es := by
  intro e he
  obtain ⟨k, u, rfl⟩ := h e he
  exact ⟨⟨k, intKind_is _ _ _ _, rfl⟩, rfl⟩
theorem ent_key {e : Int × Value} {prog : Program} {w : World} {k : Int} (h : ∃ k u, e = (hashInt k, Value.int k u)) (hk : (intKind prog w).is k e.2 = true) : keyOf e = k := by
  obtain ⟨k', u, rfl⟩ := h
  exact (intKind prog w).inj _ _ _ (intKind_is _ _ _ _) hk
theorem find_some {prog : Program} {w : World} {es : List (Int × Value)} {k : Int} {j : Nat} (h : EntsOf es) (e : es.findIdx? (fun e => (intKind prog w).is k e.2) = some j) : j < es.length ∧ (es.map keyOf)[j]? = some k := by
  obtain ⟨hj, hp, _⟩ := List.findIdx?_eq_some_iff_getElem.mp e
  refine ⟨hj, ?_⟩
  rw [List.getElem?_map, List.getElem?_eq_getElem hj, Option.map_some, ent_key (h _ (List.getElem_mem hj)) hp]
theorem find_none {prog : Program} {w : World} {es : List (Int × Value)} {k : Int} (h : EntsOf es) (e : es.findIdx? (fun e => (intKind prog w).is k e.2) = none) : k ∉ es.map keyOf := by
  intro hm
  obtain ⟨x, hx, hk⟩ := List.mem_map.mp hm
  have := List.findIdx?_eq_none_iff.mp e x hx
  obtain ⟨k', u, rfl⟩ := h x hx
  have hk : k' = k := hk
  subst hk
  rw [intKind_is] at this; cases this
theorem perm_eraseIdx {α : Type} {l : List α} {j : Nat} {x : α} (h : l[j]? = some x) : (x :: l.eraseIdx j).Perm l := by
  have hj : j < l.length := by
    rcases Nat.lt_or_ge j l.length with h1 | h1
    · exact h1
    · rw [List.getElem?_eq_none h1] at h; cases h
  have e : l[j] = x := by rw [List.getElem?_eq_getElem hj] at h; exact Option.some.inj h
  rw [List.eraseIdx_eq_take_drop_succ]
  have e2 : l = l.take j ++ (x :: l.drop (j + 1)) := by
    rw [← e, List.getElem_cons_drop, List.take_append_drop]
  refine List.perm_middle.symm.trans ?_
  rw [← e2]
theorem map_eraseIdx {α β : Type} (f : α → β) (l : List α) (j : Nat) : (l.eraseIdx j).map f = (l.map f).eraseIdx j := by
  rw [List.eraseIdx_eq_take_drop_succ, List.eraseIdx_eq_take_drop_succ, List.map_append, List.map_take, List.map_drop]
theorem SetIs.store {w : World} {o : Obj} {es' : Array (Int × Value)} {ep' : Nat} {t' : SetTable} {ks' : List Int} (hex : o.ExactSet)
    (h1 : EntsOf es'.toList) (h2 : (es'.toList.map keyOf).Perm ks') (h3 : t'.fits es'.size = true) (h4 : Asc t'.place) (h5 : byText w = true ∨ t'.led = true) : SetIs w { o with data := .set es' ep' t' } ks' :=
  ⟨hex, es', ep', t', rfl, h1, h2, h3, h4, h5⟩
theorem stored_at {h : Heap} {a : Addr} {o : Obj} {es es' : Array (Int × Value)} {ep : Nat} {t t' : SetTable} (ho : h.get? a = some o) (hd : o.data = .set es ep t) :
    (h.update a (Obj.putSet es' t')).get? a = some { o with data := .set es' (ep + 1) t' } := by
  have := Heap.get?_update_self (Obj.putSet es' t') ho (by rw [putSet_of es' t' hd]; rfl)
  rw [putSet_of es' t' hd] at this
  exact this
section
variable {prog : Program} {w : World} {A : Around} {E : Value → Shared → Prop} {s : Shared} {a : Addr} {o : Obj} {ks : List Int} {k : Int} {u : Tok}
theorem size_of_perm {es : Array (Int × Value)} (h : (es.toList.map keyOf).Perm ks) : es.size = ks.length := by
  have := h.length_eq
  rw [List.length_map, Array.length_toList] at this
  exact this
theorem wp_discard {Q : Bool → Shared → Prop} (ho : s.heap.get? a = some o) (hS : SetIs w o ks) (hb : ks.length < 1000)
    (hno : k ∉ ks → Q false s) (hyes : k ∈ ks → ∀ h' o', Heap.SameBut a s.heap h' → h'.get? a = some o' → SetIs w o' (ks.erase k) → Q true { s with heap := h' }) :
    wpAny (model prog w) A (setDiscardHashed a (.int k u) (hashInt k)) Q E s := by
  obtain ⟨hex, es, ep, t, hd, hel, hp, hf, hA, hl⟩ := hS
  have hsz := size_of_perm hp
  have hb' : es.size < scanBound := by rw [hsz]; exact Nat.lt_trans hb (by decide)
  have hE : ElemsOf (intKind prog w) es.toList := hel.elems
  unfold setDiscardHashed
  refine wpAny_bind ?_
  unfold setFind setFindIn
  refine wpAny_bind (wpAny_setState_of ho hd hf ?_)
  dsimp only
  rw [byScan_of rfl hb' hE]
  simp only [↓reduceIte]
  refine wpAny_bind (wpAny_rule ?_)
  refine wpAny_bind (wpAny_setScan_of (knd := intKind prog w) (k := k) (intKind_is _ _ _ _) ho hd hf hE ?_)
  cases hr : es.toList.findIdx? (fun e => (intKind prog w).is k e.2) with
  | none =>
    have := find_none hel hr
    exact wpAny_pure (wpAny_pure (hno fun hm => this (hp.mem_iff.mpr hm)))
  | some j =>
    obtain ⟨hj, hkj⟩ := find_some hel hr
    dsimp only
    refine wpAny_pure ?_
    dsimp only
    rw [Nat.zero_add]
    refine wpAny_bind (wpAny_setState_of ho hd hf ?_)
    dsimp only
    have hjs : j < es.size := by rw [Array.length_toList] at hj; exact hj
    have l1 : (SetTable.eraseAt es j).toList = es.toList.eraseIdx j := toList_erase es j
    have l2 : (SetTable.eraseAt es j).size = es.size - 1 := by
      rw [← Array.length_toList, l1, List.length_eraseIdx, if_pos hj, Array.length_toList]
    refine wpAny_bind (wpAny_storeSet_of ho hd ?_ (fits_of_scanBound (by omega)))
    refine wpAny_bind (wpAny_point (wpAny_pure ?_))
    have hm : k ∈ es.toList.map keyOf := List.mem_of_getElem? hkj
    refine hyes (hp.mem_iff.mp hm) _ _ (Heap.SameBut.update ..) (stored_at ho hd) ?_
    refine SetIs.store hex (fun e he => ?_) ?_ ?_ (drop_asc hA j).1 ?_
    · rw [l1] at he; exact hel e (List.mem_of_mem_eraseIdx he)
    · rw [l1]
      have p1 : (k :: (es.toList.map keyOf).eraseIdx j).Perm (es.toList.map keyOf) := perm_eraseIdx hkj
      have p2 : ks.Perm (k :: ks.erase k) := List.perm_cons_erase (hp.mem_iff.mp hm)
      rw [map_eraseIdx]
      exact ((p1.trans hp).trans p2).cons_inv
    · rw [l2]
      obtain ⟨n, hn⟩ : ∃ n, es.size = n + 1 := ⟨es.size - 1, by omega⟩
      rw [hn] at hf hjs ⊢
      exact drop_fits hf hjs
    · rw [(drop_asc hA j).2]; exact hl
theorem wp_add {Q : Bool → Shared → Prop} (ho : s.heap.get? a = some o) (hS : SetIs w o ks) (hb : ks.length < 1000) (hk : k ∉ ks)
    (h : ∀ h' o', Heap.SameBut a s.heap h' → h'.get? a = some o' → SetIs w o' (ks ++ [k]) → Q true { s with heap := h' }) :
    wpAny (model prog w) A (setAddHashed a (.int k u) (hashInt k)) Q E s := by
  obtain ⟨hex, es, ep, t, hd, hel, hp, hf, hA, hl⟩ := hS
  have hsz := size_of_perm hp
  have hb' : es.size + 1 < scanBound := by rw [hsz]; exact Nat.lt_trans (Nat.succ_lt_succ hb) (by decide)
  have hE : ElemsOf (intKind prog w) es.toList := hel.elems
  have hgw : ∀ (b : Bool) {s₁ : Shared} {Q' : Unit → Shared → Prop}, Q' () s₁ → wpAny (model prog w) A (match b with | true => rule "set.scan.the-table-gave-way" | false => pure ()) Q' E s₁ :=
    fun b s₁ Q' hq => by cases b with
      | false => exact wpAny_pure hq
      | true => exact wpAny_rule hq
  unfold setAddHashed setAddHashedIn
  refine wpAny_holding (wpAny_bind (wpAny_setState_of ho hd hf ?_))
  dsimp only
  rw [byScan_of rfl (Nat.lt_of_succ_lt hb') hE]
  simp only [↓reduceIte]
  unfold setAddByScan
  refine wpAny_bind (wpAny_bind (wpAny_rule ?_))
  refine wpAny_bind (wpAny_setScan_of (knd := intKind prog w) (k := k) (intKind_is _ _ _ _) ho hd hf hE ?_)
  cases hr : es.toList.findIdx? (fun e => (intKind prog w).is k e.2) with
  | some j => exact absurd (hp.mem_iff.mp (List.mem_of_getElem? (find_some hel hr).2)) hk
  | none =>
    dsimp only
    have l1 := layNew_perm t es (hashInt k) (.int k u)
    have l2 := layNew_fits t es (hashInt k) (.int k u)
    obtain ⟨l3, l4⟩ := layNew_asc hA es (hashInt k) (.int k u)
    generalize layNew t es (hashInt k) (.int k u) = LN at l1 l2 l3 l4 ⊢
    obtain ⟨es1, t1, wd, gv⟩ := LN
    dsimp only at l1 l2 l3 l4 ⊢
    rw [Array.toList_push] at l1
    have g1 : EntsOf es1.toList := fun e he => by
      rcases List.mem_append.mp (l1.mem_iff.mp he) with h1 | h1
      · exact hel e h1
      · exact ⟨k, u, List.mem_singleton.mp h1⟩
    have g2 : (es1.toList.map keyOf).Perm (ks ++ [k]) := by
      refine (l1.map keyOf).trans ?_
      rw [List.map_append]
      exact hp.append (List.Perm.refl [k])
    have g3 : es1.size < scanBound := by
      have := size_of_perm g2
      rw [List.length_append] at this
      have e1 : [k].length = 1 := rfl
      omega
    refine wpAny_bind (hgw gv ?_)
    have ho1 : (s.heap.update a (Obj.putSet es1 t1)).get? a = some { o with data := .set es1 (ep + 1) t1 } := stored_at ho hd
    have hb1 := Heap.SameBut.update s.heap a (Obj.putSet es1 t1)
    have hg1 : byText w = true ∨ t1.led = true := by rw [l4]; exact hl
    have q1 := h _ _ hb1 ho1 (SetIs.store hex g1 g2 l2 l3 hg1)
    have r1 := relayAll_perm t1 es1 (SetTable.grown es1.size)
    have r2 := relayAll_fits t1 es1 (SetTable.grown es1.size)
    obtain ⟨r3, r4⟩ := relayAll_asc t1 es1 (SetTable.grown es1.size)
    split
    · rw [hashByValue_scannable 8 rfl]
      refine wpAny_bind (wpAny_pure ?_)
      simp only [plainKind, ↓reduceIte]
      generalize relayAll t1 es1 (SetTable.grown es1.size) = RL at r1 r2 r3 r4 ⊢
      obtain ⟨es2, t2, gv2⟩ := RL
      dsimp only at r1 r2 r3 r4 ⊢
      have e2 : es2.size = es1.size := by rw [← Array.length_toList, r1.length_eq, Array.length_toList]
      refine wpAny_bind (wpAny_storeSet_of ho hd ?_ (fits_of_scanBound g3))
      split
      · refine wpAny_bind (hgw gv2 ?_)
        refine wpAny_bind (wpAny_storeSet_of ho1 rfl ?_ (fits_of_scanBound (by rw [e2]; exact g3)))
        refine wpAny_pure (wpAny_pure (h _ _ (hb1.trans (Heap.SameBut.update _ a _)) (stored_at ho1 rfl) ?_))
        exact SetIs.store (o := { o with data := .set es1 (ep + 1) t1 }) hex (fun e he => g1 e (r1.mem_iff.mp he)) ((r1.map keyOf).trans g2) r2 r3 (by rw [r4]; exact hg1)
      · exact wpAny_pure (wpAny_pure q1)
    · refine wpAny_bind (wpAny_pure ?_)
      simp only [↓reduceIte]
      generalize relayAll t1 es1 (SetTable.grown es1.size) = RL at r1 r2 r3 r4 ⊢
      obtain ⟨es2, t2, gv2⟩ := RL
      dsimp only at r1 r2 r3 r4 ⊢
      have e2 : es2.size = es1.size := by rw [← Array.length_toList, r1.length_eq, Array.length_toList]
      refine wpAny_bind (wpAny_storeSet_of ho hd ?_ (fits_of_scanBound g3))
      split
      · refine wpAny_bind (hgw gv2 ?_)
        refine wpAny_bind (wpAny_storeSet_of ho1 rfl ?_ (fits_of_scanBound (by rw [e2]; exact g3)))
        refine wpAny_pure (wpAny_pure (h _ _ (hb1.trans (Heap.SameBut.update _ a _)) (stored_at ho1 rfl) ?_))
        exact SetIs.store (o := { o with data := .set es1 (ep + 1) t1 }) hex (fun e he => g1 e (r1.mem_iff.mp he)) ((r1.map keyOf).trans g2) r2 r3 (by rw [r4]; exact hg1)
      · exact wpAny_pure (wpAny_pure q1)
/-- out if it is there, in if it is not -/
def flipL (ks : List Int) (k : Int) : List Int := if k ∈ ks then ks.erase k else ks ++ [k]
theorem wp_flip {Q : Unit → Shared → Prop} (ho : s.heap.get? a = some o) (hS : SetIs w o ks) (hb : ks.length < 1000)
    (h : ∀ h' o', Heap.SameBut a s.heap h' → h'.get? a = some o' → SetIs w o' (flipL ks k) → Q () { s with heap := h' }) :
    wpAny (model prog w) A (setDiscardHashed a (.int k u) (hashInt k) >>= fun b => if (!b) = true then (setAddHashed a (.int k u) (hashInt k) >>= fun _ => pure ()) else pure ()) Q E s := by
  refine wpAny_bind (wp_discard ho hS hb (fun hn => ?_) fun hy h' o' x1 x2 x3 => ?_)
  · rw [if_pos (by decide)]
    refine wpAny_bind (wp_add ho hS hb hn fun h' o' x1 x2 x3 => wpAny_pure (h h' o' x1 x2 ?_))
    unfold flipL; rw [if_neg hn]; exact x3
  · rw [if_neg (by decide)]
    refine wpAny_pure (h h' o' x1 x2 ?_)
    unfold flipL; rw [if_pos hy]; exact x3
end
end Mine
end
section
open PySem PySem.W PyProof.Rows PySem.Calls PySem.Spec
set_option maxRecDepth 100000
namespace Mine
theorem fills_set_ixor : fillsInplaceSlot (.type "set") "xor" (Operator.BitXor == .Add) = pure true := by
  unfold fillsInplaceSlot
  show (typeLookup (.type "set") (dunderI "xor") >>= fun fi => pure (fi.isSome && !isSeqSlot fi)) = pure true
  rw [F.slot_set_ixor.lookup]; rfl
theorem sub_ss : isSubtype (.type "set") (.type "set") = pure true := by rw [isSubtype_type]; kernel_rfl
theorem pick_one {α : Type} (next : Nat → Nat) (e : α) : pickOrder next #[e] = #[e] := by
  unfold pickOrder
  show pickOrder.go next 1 0 [e] #[] = #[e]
  unfold pickOrder.go
  have h1 : [e][next 0 % [e].length]? = some e := by
    rw [show [e].length = 1 from rfl, Nat.mod_one]; rfl
  rw [h1]
  rfl
section
variable {prog : Program} {w : World} {A : Around} {E : Value → Shared → Prop} {s : Shared} {a b : Addr} {oa ob : Obj} {ks : List Int} {k : Int}
theorem one_ent {S : Int → Bool} (h : ob.SetObjOf (intKind prog w) S 1) (hS : ∀ x, S x = true ↔ x = k) :
    ob.ExactSet ∧ ∃ u ep t, ob.data = .set #[(hashInt k, .int k u)] ep t ∧ t.fits 1 = true := by
  obtain ⟨hex, es, ep, t, hd, hel, hmem, hn, hf⟩ := h
  obtain ⟨l⟩ := es
  match l, hn with
  | [e], _ =>
    obtain ⟨⟨k', hk', hh⟩, _⟩ := hel e (by simp)
    have : S k' = true := (hmem k').mpr ⟨e, by simp, hk'⟩
    have e1 := (hS k').mp this
    subst e1
    obtain ⟨h0, x⟩ := e
    obtain ⟨u, rfl⟩ := Value.isInt_shape hk'
    have hh : h0 = hashInt k' := hh
    subst hh
    exact ⟨hex, u, ep, t, hd, hf⟩
theorem walk_one {Q : Array (Int × Value) → Shared → Prop} {u : Tok} {ep : Nat} {t : SetTable} {os : List Addr} {f : Option Addr} (hb : s.heap.get? b = some ob) (hd : ob.data = .set #[(hashInt k, .int k u)] ep t) (hf : t.fits 1 = true)
    (h : Q #[(hashInt k, .int k u)] s) : wpAny (model prog w) A (setWalkUnseen b os f) Q E s := by
  unfold setWalkUnseen
  refine wpAny_bind (wpAny_setState_of hb hd hf ?_)
  dsimp only
  unfold setsByText
  refine wpAny_bind (wpAny_bind (wpAny_askSetting (wpAny_pure ?_)))
  have hc : ∀ p q : Bool, (p || q || decide ((#[(hashInt k, Value.int k u)] : Array (Int × Value)).size ≤ 1)) = true := fun p q => by simp
  rw [if_pos (hc _ _)]
  refine wpAny_bind ?_
  refine wpAny_setState_of hb hd hf ?_
  dsimp only
  unfold setsByText
  refine wpAny_bind (wpAny_bind (wpAny_askSetting (wpAny_pure ?_)))
  split
  · refine wpAny_bind (wpAny_askSetting ?_)
    rw [pick_one]
    exact wpAny_pure h
  · have hz : (!t.plain && decide ((#[(hashInt k, Value.int k u)] : Array (Int × Value)).size > 1)) = false := by simp
    show wpAny (model prog w) A (if (!t.plain && decide ((#[(hashInt k, Value.int k u)] : Array (Int × Value)).size > 1)) = true then _ else _) _ E s
    rw [hz, if_neg Bool.false_ne_true]
    have hz2 : (!t.led && decide ((#[(hashInt k, Value.int k u)] : Array (Int × Value)).size > 1)) = false := by simp
    show wpAny (model prog w) A ((if (!t.led && decide ((#[(hashInt k, Value.int k u)] : Array (Int × Value)).size > 1)) = true then _ else _) >>= fun _ => _) _ E s
    rw [hz2, if_neg Bool.false_ne_true]
    exact wpAny_bind (wpAny_pure (wpAny_pure h))
theorem ixor_sets {S : Int → Bool} {Q : Value → Shared → Prop} (ha : s.heap.get? a = some oa) (hA : SetIs w oa ks) (hl : ks.length < 1000) (hb : s.heap.get? b = some ob) (hB : ob.SetObjOf (intKind prog w) S 1) (hS : ∀ x, S x = true ↔ x = k) (hab : a ≠ b)
    (h : ∀ h' o', Heap.SameBut a s.heap h' → h'.get? a = some o' → SetIs w o' (flipL ks k) → Q (.ref a) { s with heap := h' }) :
    wpAny (model prog w) A (inplaceOp .BitXor (.ref a) (.ref b)) Q E s := by
  obtain ⟨hex, u, ep, t, hd, hf⟩ := one_ent hB hS
  have hTa : s.TypeIs (.ref a) "set" := ⟨oa, ha, hA.1.1⟩
  have hTb : s.TypeIs (.ref b) "set" := ⟨ob, hb, hex.1⟩
  unfold inplaceOp
  refine wpAny_holding ?_
  refine wpAny_bind (wpAny_typeOf hTa (wpAny_bind (wpAny_of_eq fills_set_ixor ?_)))
  rw [if_pos rfl]
  refine wpAny_bind (wpAny_tryMethod_slot (T := "set") (id := "set.__ixor__") hTa F.slot_set_ixor ?_)
  refine wpAny_call_entry F.slot_set_ixor hTa F.entry_set_ixor ?_ (F.args_set_ixor_2 _ _)
  show wpAny (model prog w) A.in1 (do
    let (self, other) ← Builtin.Frozenset.slot1 "__ixor__" ⟨[Value.ref a, Value.ref b], []⟩
    if !(← Builtin.Frozenset.isAnySet other) then rule s!"set.{"__ixor__"}.declined"; return ← ret .notImplemented
    Builtin.Frozenset.symmetricDifferenceUpdate s!"set.{"__ixor__"}" (← Builtin.Frozenset.addrOf self) other
    ret self) _ _ _
  unfold Builtin.Frozenset.slot1 slotArgs
  refine wpAny_bind (m := do
    let (self, [x]) ← (pure (Value.ref a, [Value.ref b]) : Sem (Value × List Value)) | unsupported "internal:set-binding"
    return (self, x)) (wpAny_pure ?_)
  dsimp only
  have hset : ∀ (A' : Around) (E' : Value → Shared → Prop) (Q' : Bool → Shared → Prop), Q' true s → wpAny (model prog w) A' (Builtin.Frozenset.isAnySet (.ref b)) Q' E' s := by
    intro A' E' Q' hq
    unfold Builtin.Frozenset.isAnySet
    refine wpAny_bind (wpAny_isInstance hTb sub_ss ?_)
    exact wpAny_pure hq
  refine wpAny_bind (hset _ _ _ ?_)
  rw [if_neg (by decide)]
  unfold Builtin.Frozenset.addrOf
  refine wpAny_bind (wpAny_pure ?_)
  refine wpAny_bind ?_
  unfold Builtin.Frozenset.symmetricDifferenceUpdate
  have hne : ((Value.ref b == Value.ref a) = true) = False := by simp [Ne.symm hab]
  rw [if_neg (by rw [hne]; exact id)]
  dsimp only
  refine wpAny_bind (wpAny_typeOf hTb ?_)
  rw [if_neg (by decide)]
  refine wpAny_bind (hset _ _ _ ?_)
  rw [if_pos rfl]
  refine wpAny_bind (wpAny_pure ?_)
  refine wpAny_bind (wpAny_pure ?_)
  refine wpAny_bind (wpAny_setEpoch_of hb hd hf ?_)
  refine wpAny_holding ?_
  refine wpAny_bind (walk_one hb hd hf ?_)
  refine wpAny_bind ?_
  rw [← Array.forIn_toList]
  show wpAny (model prog w) A.in1 (forIn [(hashInt k, Value.int k u)] PUnit.unit _) _ _ _
  rw [List.forIn_cons]
  refine wpAny_bind (wpAny_bind (wpAny_holding (wp_flip ha hA hl fun h' o' x1 x2 x3 => ?_)))
  refine wpAny_bind ?_
  have hb' : h'.get? b = some ob := x1.extBut b ob (Ne.symm hab) hb
  unfold Builtin.Frozenset.unchanged
  refine wpAny_bind (wpAny_setEpoch_of (s := { s with heap := h' }) hb' hd hf ?_)
  rw [if_neg (by simp)]
  refine wpAny_pure (wpAny_pure ?_)
  dsimp only
  rw [List.forIn_nil]
  refine wpAny_pure (wpAny_pure (wpAny_pure ⟨_, rfl, by simp, ?_⟩))
  exact wpAny_bind (wpAny_rule (wpAny_pure (h h' o' x1 x2 x3)))
end
end Mine
end
section
open PySem PySem.W PyProof.Rows PySem.Calls PySem.Spec
namespace Mine
/-- the set that set() makes -/
abbrev noSet (w : World) : Obj := { cls := .type "set", dict := none, data := .set #[] 0 (.fresh 0 0 (!byText w)) }
theorem noSet_is (w : World) : SetIs w (noSet w) [] := by
  refine ⟨⟨rfl, rfl, rfl⟩, #[], 0, _, rfl, fun e he => by simp at he, by simp, by rfl, by unfold Asc; exact .nil, ?_⟩
  show byText w = true ∨ (!byText w) = true
  cases byText w <;> simp
section
variable {prog : Program} {w : World} {A : Around} {E : Value → Shared → Prop} {s : Shared}
theorem set_new_code {Q₁ : Value → Shared → Prop} (h : Q₁ (.ref s.heap.objs.size) { s with heap := s.heap.push (noSet w) }) :
    codeAny (model prog w) A (.call (.builtin "set.__new__") ⟨[.type "set"], []⟩) (wants Q₁ E) s := by
  refine codeAny_of_tree ?_
  show wpAny _ A.in1 (checkBuiltinCall "set.__new__" ⟨[.type "set"], []⟩ >>= fun _ => again (.builtin "set.__new__" ⟨[.type "set"], []⟩)) _ _ s
  refine wpAny_bind (wpAny_of_eq F.newCall_set_0 (wpAny_pure ⟨plainId_quiet F.plain_set_new _, codeAny_builtin F.entry_set_new ?_⟩))
  rw [Around.under_plainId F.plain_set_new _]
  unfold Builtin.«set.__new__» Builtin.Frozenset.newClass
  have hsub := sub_ss
  obtain ⟨hp, g, d, tk, os⟩ := s
  dsimp only
  wp_walk
  refine wpAny_askSetting (wpAny_pure ?_)
  dsimp only [newObj]
  exact wpAny_bind (wpAny_alloc (wpAny_pure (wpAny_pure h)))
set_option maxHeartbeats 1000000 in
set_option maxRecDepth 100000 in
theorem set_new {Q : Value → Shared → Prop} (h : Q (.ref s.heap.objs.size) { s with heap := s.heap.push (noSet w) }) :
    wpAny (model prog w) A (call (.type "set") []) Q E s := by
  have c1 := F.called_set.notType
  have c2 := F.called_set.canCreate
  have c3 := F.called_set.made
  have c4 := F.called_set.sub
  have c5 := F.typeCall_set_0
  obtain ⟨cl, tl, c6⟩ := F.called_set.mro
  refine wpAny_call (codeAny_of_tree ?_)
  show wpAny _ _ (callAny (.type "set") _) _ _ _
  refine wpAny_pure ⟨Code.quiet_builtin _ (by decide +kernel), codeAny_builtin F.entry_type_call ?_⟩
  rw [Around.under_plain (weight_type_call_type "set" [] []) rfl]
  repeat (any_goals (first | assumption | wp_step))
  refine codeAny_mono (set_new_code (E := E) (Q₁ := fun v s₁ => v = .ref s.heap.objs.size ∧ s₁ = { s with heap := s.heap.push (noSet w) }) ⟨rfl, rfl⟩) fun r s₁ hr => ?_
  match r, hr with
  | .error e, hr => exact hr
  | .ok (.ret v), hr =>
    obtain ⟨rfl, rfl⟩ := hr
    have hT : Shared.TypeIs { s with heap := s.heap.push (noSet w) } (.ref s.heap.objs.size) "set" := ⟨_, Heap.get?_push_size _ rfl, rfl⟩
    have i1 := F.called_set.init.lookup
    have i2 := F.called_set.init.bind (.ref s.heap.objs.size)
    repeat (any_goals (first | assumption | wp_step))
    refine codeAny_mono (codeAny_call_builtin (R := wants (fun v s₂ => v = .none ∧ Q (.ref s.heap.objs.size) s₂) E) F.called_set.init.plain F.entry_set_init (check_set_init hT ?_)) fun r₂ s₂ hr₂ => ?_
    · unfold Builtin.«set.__init__» noKeywords
      wp_walk
      exact ⟨rfl, h⟩
    · match r₂, hr₂ with
      | .error e, hr₂ => exact hr₂
      | .ok (.ret v), hr₂ =>
        obtain ⟨rfl, hq⟩ := hr₂
        repeat (any_goals (first | assumption | wp_step))
theorem r_setnew {h₀ : Heap} {L : Addr} {m : Str → Option Value} {news : List (Addr × Obj)} {Q : Value → Shared → Prop} (F : Fr h₀ L s.heap m) (N : News h₀ L s.heap news)
    (h : ∀ D h', Fr h₀ L h' m → News h₀ L h' ((D, noSet w) :: news) → (∀ p ∈ news, p.1 < D) → Q (.ref D) { s with heap := h' }) :
    wpAny (model prog w) A (call (.type "set") []) Q E s :=
  set_new (h _ _ (F.push _) (N.push F _) fun p hp => Heap.lt_size (N p hp).1)
theorem r_ixor_sets {h₀ : Heap} {L a b : Addr} {m : Str → Option Value} {news : List (Addr × Obj)} {g : Obj → List (Addr × Obj)} {oa ob : Obj} {ks : List Int} {k : Int} {S : Int → Bool} {Q : Value → Shared → Prop}
    (F : Fr h₀ L s.heap m) (N : News h₀ L s.heap news) (U : UpdF a oa news g) (hA : SetIs w oa ks) (hl : ks.length < 1000) (hb : (b, ob) ∈ news) (hB : ob.SetObjOf (intKind prog w) S 1) (hS : ∀ x, S x = true ↔ x = k) (hab : a ≠ b)
    (h : ∀ h' o', Fr h₀ L h' m → News h₀ L h' (g o') → SetIs w o' (flipL ks k) → Q (.ref a) { s with heap := h' }) :
    wpAny (model prog w) A (inplaceOp .BitXor (.ref a) (.ref b)) Q E s := by
  obtain ⟨pre, post, rfl, hg, x, y⟩ := U.split
  have hm := N (a, oa) (List.mem_append_right _ (.head _))
  exact ixor_sets hm.1 hA hl (N _ hb).1 hB hS hab fun h' o' hsb ho' hS' => h h' o' (F.change hsb hm.2.1 hm.2.2) (hg o' ▸ N.setIn x y hsb ho') hS'
end
end Mine
end
section
open PySem PySem.W PyProof.Rows PySem.Calls PySem.Spec
set_option maxRecDepth 100000
namespace Mine
theorem entry_set_iter : entryFor table "set.__iter__" = some Builtin.«frozenset.__iter__» :=
  entryFor_alias (id' := "frozenset.__iter__") (by kernel_rfl) rfl (by decide +kernel) (by kernel_rfl)
theorem slot_si_next : Slot "set_iterator" "__next__" "set_iterator.__next__" :=
  .of (owner := "set_iterator") (n := "__next__") (by rw [typeLookup_type, builtinLookup_eq_fast]; kernel_rfl) (by decide +kernel) (by decide +kernel) (by decide +kernel)
    (by first | exact .inl (by decide +kernel) | exact .inr (by decide +kernel)) (by rw [isSubtype_type]; kernel_rfl)
theorem entry_si_next : entryFor table "set_iterator.__next__" = some Builtin.«set_iterator.__next__» := entryFor_of_fast (by kernel_rfl)
theorem args_si_next (a : Value) : argsOk "set_iterator.__next__" ⟨[a], []⟩ := by unfold argsOk; kernel_rfl
/-- an iterator over a set, behind i things -/
abbrev itObj (first : Value) (i : Nat) (a : Addr) (n ep : Nat) : Obj := { cls := .type "set_iterator", dict := none, data := .fields #[first, .int i 0, .ref a, .int n 0, .int ep 0], slots := #[] }
abbrev plObj (ps : List Nat) : Obj := { cls := .type "tuple", data := .seq (ps.map fun (i : Nat) => rawInt i).toArray }
/-- the three ways in which a set is walked -/
def Way (w : World) (B I : Nat) (h : Heap) (a : Addr) (es : Array (Int × Value)) (ep : Nat) (t : SetTable) (order : List (Int × Value)) (i : Nat) (first : Value) : Prop :=
  (byText w = true ∧ first = .int 0 0 ∧ order = (pickOrder (w.params.setOrder a ep) es).toList) ∨
  (byText w = false ∧ (∃ k : Nat, first = .int (k : Int) 0 ∧ SetTable.below t.place k = i) ∧ (!t.plain && decide (es.size > 1)) = false ∧ order = es.toList) ∨
  (byText w = false ∧ ∃ T ps, first = .ref T ∧ (B ≤ T ∧ T < I) ∧ h.get? T = some (plObj ps) ∧ ps.length = es.size ∧ (∀ p ∈ ps, p < es.size) ∧ order = ps.filterMap (es[·]?))
def SIt (w : World) (B I a : Nat) (oa : Obj) (es : Array (Int × Value)) (ep : Nat) (t : SetTable) (order : List (Int × Value)) (i : Nat) (h : Heap) : Prop :=
  h.get? a = some oa ∧ ∃ first, h.get? I = some (itObj first i a es.size ep) ∧ Way w B I h a es ep t order i first
section
variable {prog : Program} {w : World} {A : Around} {E : Value → Shared → Prop} {s : Shared} {I a : Addr} {oa : Obj} {es : Array (Int × Value)} {ep : Nat} {t : SetTable}
theorem wp_choose {src : Source} {n : Nat} {Q : Nat → Shared → Prop} (hn : n ≠ 0) (h : ∀ i d, i < n → Q i { s with drawn := d }) : wpAny (model prog w) A (choose src n) Q E s :=
  fun _ _ _ => ⟨hn, h _ _ (Nat.mod_lt _ (Nat.pos_of_ne_zero hn))⟩
theorem wp_drawOrder {α : Type} : ∀ (n : Nat) (l : List α) {s : Shared} {Q : List α → Shared → Prop}, l.length ≤ n → (∀ l' d, l'.Perm l → Q l' { s with drawn := d }) → wpAny (model prog w) A (drawOrder n l) Q E s
  | 0, l, s, Q, hl, h => by
    have e : l = [] := List.length_eq_zero_iff.mp (Nat.le_zero.mp hl)
    subst e
    exact wpAny_pure (h [] s.drawn (.refl _))
  | n + 1, [], s, Q, hl, h => wpAny_pure (h [] s.drawn (.refl _))
  | n + 1, x :: r, s, Q, hl, h => by
    unfold drawOrder
    refine wpAny_bind (wp_choose (by simp) fun i d hi => ?_)
    rw [List.getElem?_eq_getElem hi]
    dsimp only
    refine wpAny_bind (wp_drawOrder n _ (by rw [List.length_eraseIdx, if_pos hi]; omega) fun l' d' hp => ?_)
    refine wpAny_pure (h _ _ ?_)
    exact (List.Perm.cons _ hp).trans (perm_eraseIdx (List.getElem?_eq_getElem hi))
/-- the end of a walk -/
theorem stop_it {s' : Shared} {Q : Option Value → Shared → Prop} (hh : A.handled = none) (he : Heap.ExtBut I s.heap s'.heap) (hs : ∃ h tk, s' = { s with heap := h, toks := tk })
    (hQ : ∀ h' tk, (∀ b o, b ∉ [I] → s.heap.get? b = some o → h'.get? b = some o) → Q none { s with heap := h', toks := tk }) :
    wpAny (model prog w) A.in1 (newExc (.type "StopIteration") [] >>= fun e => (raiseNew e : Sem Fin)) (fun fin s' => ∃ v, fin = .done (.ret v) ∧ wpAny (model prog w) A (match (Except.ok (some v) : Except Value (Option Value)) with
      | .ok (some v) => pure (some v)
      | .ok none => unsupported "iter:the-iterator's-class-has-lost-its-__next__-amid-the-walk"
      | .error e => do if ← isInstance e (.type "StopIteration") then pure none else throw e) Q E s') (fun e s' => wpAny (model prog w) A (do if ← isInstance e (.type "StopIteration") then pure none else throw e) Q E s') s' := by
  obtain ⟨h, tk, rfl⟩ := hs
  refine wpAny_bind ?_
  simp only [newExc, newTuple]
  refine wpAny_bind (wpAny_newObj_type ?_ (by size_fits))
  refine wpAny_bind (m := firstArgMember _ _) (wpAny_of_eq (a := Value.none) (by first | rfl | (simp only [firstArgMember]; rfl)) ?_)
  refine wpAny_newObj_type ?_ (by size_fits)
  simp only [raiseNew]
  refine wpAny_bind (wpAny_handled ?_)
  rw [show A.in1.handled = none from hh]
  refine wpAny_bind (wpAny_pure (wpAny_throw ?_))
  refine wpAny_bind (wpAny_isInstance (T := "StopIteration") (b := true) ⟨_, Heap.get?_push_size _ rfl, rfl⟩ isSubtype_stop ?_)
  refine wpAny_pure (hQ _ _ fun b o hb e => ?_)
  exact Heap.get?_push_of_some _ (Heap.get?_push_of_some _ (he b o (fun x => hb (List.mem_singleton.mpr x)) e))
/-- what holds of the set all the while -/
structure SetNow (w : World) (oa : Obj) (es : Array (Int × Value)) (ep : Nat) (t : SetTable) (order : List (Int × Value)) : Prop where
  d : oa.data = .set es ep t
  f : t.fits es.size = true
  asc : Asc t.place
  led : byText w = true ∨ t.led = true
  perm : order.Perm es.toList
theorem SetNow.len {order : List (Int × Value)} (H : SetNow w oa es ep t order) : order.length = es.size := by rw [H.perm.length_eq, Array.length_toList]
theorem filterMap_at (es : Array (Int × Value)) : ∀ (ps : List Nat), (∀ p ∈ ps, p < es.size) → ∀ i : Nat, (ps.filterMap (es[·]?))[i]? = ps[i]?.bind (es[·]?)
  | [], _, i => by simp
  | p :: r, h, i => by
    have hp : p < es.size := h p List.mem_cons_self
    rw [List.filterMap_cons_some (b := es[p]) (by simp [hp])]
    cases i with
    | zero => simp [hp]
    | succ i =>
      rw [List.getElem?_cons_succ, List.getElem?_cons_succ]
      exact filterMap_at es r (fun q hq => h q (List.mem_cons_of_mem _ hq)) i
theorem wp_setWalk_text {ep : Nat} {Q : Array (Int × Value) → Shared → Prop} (hb : s.heap.get? a = some oa) (hd : oa.data = .set es ep t) (hf : t.fits es.size = true) (hx : byText w = true)
    (h : Q (pickOrder (w.params.setOrder a ep) es) s) : wpAny (model prog w) A (setWalk a) Q E s := by
  refine wpAny_bind ?_
  refine wpAny_setState_of hb hd hf ?_
  dsimp only
  unfold setsByText
  refine wpAny_bind (wpAny_bind (wpAny_askSetting (wpAny_pure ?_)))
  rw [if_pos (show (model prog w).w.params.followText "set-order" = true from hx)]
  exact wpAny_bind (wpAny_askSetting (wpAny_pure h))
theorem sn_text {slot i : Nat} {order : List (Int × Value)} {Q : Option (Value × Nat) → Shared → Prop} (H : SetNow w oa es ep t order) (ha : s.heap.get? a = some oa) (hx : byText w = true) (ho : order = (pickOrder (w.params.setOrder a ep) es).toList)
    (h : Q (order[i]?.map fun e => (e.2, slot)) s) : wpAny (model prog w) A (setNext a slot i ep) Q E s := by
  unfold setNext
  refine wpAny_bind (wpAny_setState_of ha H.d H.f ?_)
  dsimp only
  unfold setsByText
  refine wpAny_bind (wpAny_bind (wpAny_askSetting (wpAny_pure ?_)))
  rw [if_pos (show (model prog w).w.params.followText "set-order" = true from hx)]
  rw [if_neg (by simp)]
  refine wpAny_bind (wp_setWalk_text ha H.d H.f hx ?_)
  rw [ho, Array.getElem?_toList] at h
  exact wpAny_pure h
theorem sn_plain {k i : Nat} {order : List (Int × Value)} {Q : Option (Value × Nat) → Shared → Prop} (H : SetNow w oa es ep t order) (ha : s.heap.get? a = some oa) (hx : byText w = false) (hk : SetTable.below t.place k = i) (hd : (!t.plain && decide (es.size > 1)) = false)
    (h : Q (match es[i]?, t.place[i]? with | some (_, x), some j => some (x, j + 1) | _, _ => none) s) : wpAny (model prog w) A (setNext a k i ep) Q E s := by
  unfold setNext
  refine wpAny_bind (wpAny_setState_of ha H.d H.f ?_)
  dsimp only
  unfold setsByText
  refine wpAny_bind (wpAny_bind (wpAny_askSetting (wpAny_pure ?_)))
  rw [if_neg (show ¬ (model prog w).w.params.followText "set-order" = true from by rw [show (model prog w).w.params.followText "set-order" = false from hx]; exact Bool.false_ne_true)]
  show wpAny (model prog w) A (if (!t.plain && decide (es.size > 1)) = true then _ else _) _ E s
  rw [hd, if_neg Bool.false_ne_true]
  have hl : t.led = true := by
    rcases H.led with h1 | h1
    · rw [hx] at h1; cases h1
    · exact h1
  have hz : (!t.led && !es.isEmpty) = false := by rw [hl]; rfl
  show wpAny (model prog w) A ((if (!t.led && !es.isEmpty) = true then _ else _) >>= fun _ => _) _ E s
  rw [hz, if_neg Bool.false_ne_true]
  refine wpAny_bind (wpAny_pure ?_)
  rw [hk]
  exact wpAny_pure h
theorem sn_drawn {p : Nat} {order : List (Int × Value)} {e : Int × Value} {Q : Value → Shared → Prop} (H : SetNow w oa es ep t order) (ha : s.heap.get? a = some oa) (hp : es[p]? = some e) (h : Q e.2 s) : wpAny (model prog w) A (setNextDrawn a p ep) Q E s := by
  unfold setNextDrawn
  refine wpAny_bind (wpAny_setState_of ha H.d H.f ?_)
  dsimp only
  rw [if_neg (by simp), hp]
  exact wpAny_pure h
theorem si_next {order : List (Int × Value)} {i B : Nat} {Q : Option Value → Shared → Prop} (H : SetNow w oa es ep t order) (hS : SIt w B I a oa es ep t order i s.heap) (hh : A.handled = none)
    (hQ : ∀ h' tk, i < es.size → SIt w B I a oa es ep t order (i + 1) h' → (∀ b o, b ∉ [I] → s.heap.get? b = some o → h'.get? b = some o) → ∀ x, order[i]? = some x → Q (some x.2) { s with heap := h', toks := tk })
    (hE : ∀ h' tk, (es.size ≤ i) → (∀ b o, b ∉ [I] → s.heap.get? b = some o → h'.get? b = some o) → Q none { s with heap := h', toks := tk }) :
    wpAny (model prog w) A (pyNext (.ref I)) Q E s := by
  obtain ⟨ha, first, hI, hW⟩ := hS
  have hT : s.TypeIs (.ref I) "set_iterator" := ⟨_, hI, rfl⟩
  have haI : a ≠ I := by
    rintro rfl
    rw [hI] at ha
    have := H.d
    rw [← Option.some.inj ha] at this
    cases this
  unfold pyNext
  refine wpAny_bind (wpAny_attempt (wpAny_callSpecial?_slot (name := Str.ofString "__next__") hT slot_si_next
    (wpAny_call_entry slot_si_next hT entry_si_next ?_ (args_si_next _))))
  show wpAny (model prog w) A.in1 (fieldsOf (.ref I) >>= _) _ _ s
  refine wpAny_bind (wpAny_fieldsOf hI rfl ?_)
  dsimp only
  refine wpAny_bind (wpAny_bind (wpAny_setState_of ha H.d H.f (wpAny_pure ?_)))
  dsimp only
  rw [if_neg (by simp)]
  have hlen := H.len
  rcases hW with ⟨hx, rfl, ho⟩ | ⟨hx, ⟨k, rfl, hk⟩, hd, ho⟩ | ⟨hx, T, ps, rfl, hTB, hTT, hpl, hpb, ho⟩
  · dsimp only
    refine wpAny_bind (sn_text H ha hx ho ?_)
    rw [Int.toNat_natCast]
    cases hi : order[i]? with
    | none =>
      dsimp only [Option.map]
      have hge : es.size ≤ i := by rw [← hlen]; exact List.getElem?_eq_none_iff.mp hi
      refine wpAny_bind (wpAny_setField_rec hI (by simp) fun h1 g1 b1 => ?_)
      exact stop_it hh b1.extBut ⟨_, _, rfl⟩ fun h' tk hk => hE h' tk hge hk
    | some x =>
      dsimp only [Option.map]
      have hlt : i < es.size := by rw [← hlen]; exact (List.getElem?_eq_some_iff.mp hi).1
      refine wpAny_bind (wpAny_setField_rec hI (by simp) fun h1 g1 b1 => ?_)
      refine wpAny_bind (wpAny_setField_rec (s := { s with heap := h1 }) g1 (by simp) fun h2 g2 b2 => ?_)
      refine wpAny_pure ⟨_, rfl, wpAny_pure (hQ h2 s.toks hlt ?_ (fun b o hb e => b2.extBut b o (fun q => hb (List.mem_singleton.mpr q)) (b1.extBut b o (fun q => hb (List.mem_singleton.mpr q)) e)) x hi)⟩
      exact ⟨b2.extBut a oa haI (b1.extBut a oa haI ha), _, g2, .inl ⟨hx, rfl, ho⟩⟩
  · dsimp only
    have hps : t.place.size = es.size := ((fits_iff _ _).mp H.f).1
    refine wpAny_bind (sn_plain H ha hx hk hd ?_)
    rw [Int.toNat_natCast]
    rcases Nat.lt_or_ge i es.size with hlt | hge
    · have hi : order[i]? = some es[i] := by rw [ho, Array.getElem?_toList, Array.getElem?_eq_getElem hlt]
      have hp : t.place[i]? = some t.place[i] := Array.getElem?_eq_getElem (by omega)
      rw [Array.getElem?_eq_getElem hlt, hp]
      dsimp only
      refine wpAny_bind (wpAny_setField_rec hI (by simp) fun h1 g1 b1 => ?_)
      refine wpAny_bind (wpAny_setField_rec (s := { s with heap := h1 }) g1 (by simp) fun h2 g2 b2 => ?_)
      refine wpAny_pure ⟨_, rfl, wpAny_pure (hQ h2 s.toks hlt ?_ (fun b o hb e => b2.extBut b o (fun q => hb (List.mem_singleton.mpr q)) (b1.extBut b o (fun q => hb (List.mem_singleton.mpr q)) e)) _ hi)⟩
      refine ⟨b2.extBut a oa haI (b1.extBut a oa haI ha), _, g2, .inr (.inl ⟨hx, ⟨t.place[i] + 1, rfl, ?_⟩, hd, ho⟩)⟩
      have := below_next H.asc (i := i) (by omega)
      rw [show t.place.getD i 0 = t.place[i] from by simp [Array.getD, (show i < t.place.size by omega)]] at this
      exact this
    · rw [Array.getElem?_eq_none hge]
      dsimp only
      refine wpAny_bind (wpAny_setField_rec hI (by simp) fun h1 g1 b1 => ?_)
      exact stop_it hh b1.extBut ⟨_, _, rfl⟩ fun h' tk hk => hE h' tk hge hk
  · have hTI : T ≠ I := by
      rintro rfl
      rw [hI] at hTT
      have := congrArg Obj.data (Option.some.inj hTT)
      cases this
    dsimp only
    refine wpAny_bind (wpAny_seqItems hTT rfl ?_)
    dsimp only
    rw [Int.toNat_natCast]
    have hat := filterMap_at es ps hpb i
    rw [← ho] at hat
    rcases Nat.lt_or_ge i es.size with hlt | hge
    · have hip : i < ps.length := by omega
      have hpi : ps[i] < es.size := hpb _ (List.getElem_mem hip)
      have e1 : (ps.map fun (i : Nat) => rawInt i).toArray[i]? = some (.int (ps[i] : Int) 0) := by
        simp [hip, rawInt]
      rw [e1]
      dsimp only
      rw [Int.toNat_natCast]
      have hi : order[i]? = some es[ps[i]] := by rw [hat, List.getElem?_eq_getElem hip]; simp [hpi]
      refine wpAny_bind (sn_drawn H ha (Array.getElem?_eq_getElem hpi) ?_)
      refine wpAny_bind (wpAny_setField_rec hI (by simp) fun h1 g1 b1 => ?_)
      refine wpAny_pure ⟨_, rfl, wpAny_pure (hQ h1 s.toks hlt ?_ (fun b o hb e => b1.extBut b o (fun q => hb (List.mem_singleton.mpr q)) e) _ hi)⟩
      exact ⟨b1.extBut a oa haI ha, _, g1, .inr (.inr ⟨hx, T, ps, rfl, hTB, b1.extBut T _ hTI hTT, hpl, hpb, ho⟩)⟩
    · have e1 : (ps.map fun (i : Nat) => rawInt i).toArray[i]? = none := by
        simp; omega
      rw [e1]
      dsimp only
      refine wpAny_bind (wpAny_setField_rec hI (by simp) fun h1 g1 b1 => ?_)
      refine wpAny_bind (wpAny_setField_rec (s := { s with heap := h1 }) g1 (by simp) fun h2 g2 b2 => ?_)
      exact stop_it hh (fun b o hb e => b2.extBut b o hb (b1.extBut b o hb e)) ⟨_, _, rfl⟩ fun h' tk hk => hE h' tk hge hk
end
end Mine
end
section
open PySem PySem.W PyProof.Rows PySem.Calls PySem.Spec
set_option maxRecDepth 100000
namespace Mine
theorem slot_si_iter : Slot "set_iterator" "__iter__" "set_iterator.__iter__" :=
  .of (owner := "set_iterator") (n := "__iter__") (by rw [typeLookup_type, builtinLookup_eq_fast]; kernel_rfl) (by decide +kernel) (by decide +kernel) (by decide +kernel)
    (by first | exact .inl (by decide +kernel) | exact .inr (by decide +kernel)) (by rw [isSubtype_type]; kernel_rfl)
theorem entry_si_iter : entryFor table "set_iterator.__iter__" = some Builtin.«dict_keyiterator.__iter__» :=
  entryFor_alias (id' := "dict_keyiterator.__iter__") (by kernel_rfl) rfl (by decide +kernel) (by kernel_rfl)
theorem args_si_iter (a : Value) : argsOk "set_iterator.__iter__" ⟨[a], []⟩ := by unfold argsOk; kernel_rfl
theorem pick_go {α : Type} (next : Nat → Nat) : ∀ (n k : Nat) (l : List α) (out : Array α), l.length ≤ n → (pickOrder.go next n k l out).toList.Perm (out.toList ++ l)
  | 0, k, l, out, h => by
    have e : l = [] := List.length_eq_zero_iff.mp (Nat.le_zero.mp h)
    subst e
    simp [pickOrder.go]
  | n + 1, k, l, out, h => by
    unfold pickOrder.go
    split
    · rename_i x hx
      have hi : next k % l.length < l.length := (List.getElem?_eq_some_iff.mp hx).1
      refine (pick_go next n (k + 1) _ _ (by rw [List.length_eraseIdx, if_pos hi]; omega)).trans ?_
      rw [Array.toList_push, List.append_assoc]
      exact List.Perm.append_left _ (perm_eraseIdx hx)
    · rename_i hx
      rw [List.getElem?_eq_none_iff] at hx
      have e : l = [] := by
        cases l with
        | nil => rfl
        | cons y r => exact absurd (Nat.mod_lt (next k) (show 0 < (y :: r).length by simp)) (Nat.not_lt.mpr hx)
      subst e
      simp
theorem pick_perm {α : Type} (next : Nat → Nat) (xs : Array α) : (pickOrder next xs).toList.Perm xs.toList := by
  have := pick_go next xs.size 0 xs.toList #[] (by rw [Array.length_toList]; exact Nat.le_refl _)
  simpa [pickOrder] using this
section
variable {prog : Program} {w : World} {A : Around} {E : Value → Shared → Prop} {s : Shared} {I a : Addr} {oa : Obj} {ks : List Int}
theorem iter_set {Q : Value → Shared → Prop} (ha : s.heap.get? a = some oa) (hS : SetIs w oa ks) (hl64 : ks.length < 64)
    (h : ∀ I h' d es ep t order, SetNow w oa es ep t order → EntsOf order → (order.map keyOf).Perm ks → SIt w s.heap.objs.size I a oa es ep t order 0 h' → (∀ b o, s.heap.get? b = some o → h'.get? b = some o) → h'.objs.size = I + 1 → s.heap.objs.size ≤ I → Q (.ref I) { s with heap := h', drawn := d }) :
    wpAny (model prog w) A (pyIter (.ref a)) Q E s := by
  obtain ⟨hex, es, ep, t, hd, hel, hp, hf, hA, hl⟩ := hS
  have hT : s.TypeIs (.ref a) "set" := ⟨oa, ha, hex.1⟩
  refine wpAny_pyIter_slot hT F.slot_set_iter (wpAny_call_entry F.slot_set_iter hT entry_set_iter ?_ (F.args_set_iter_1 _))
  show wpAny (model prog w) A.in1 (do
    let n ← Builtin.Frozenset.sizeOf a
    let first ← if ← setDrawn a then newTuple ((← drawOrder n (List.range n)).map fun (i : Nat) => rawInt i) else pure (rawInt 0)
    ret (← newFields "set_iterator" [first, rawInt 0, .ref a, rawInt n, rawInt (← setEpoch a)])) _ _ s
  unfold Builtin.Frozenset.sizeOf
  refine wpAny_bind (wpAny_bind (wpAny_setEntries_of ha hd hf (wpAny_pure ?_)))
  unfold setDrawn
  refine wpAny_bind (wpAny_bind (wpAny_setState_of ha hd hf ?_))
  dsimp only
  unfold setsByText
  refine wpAny_bind (wpAny_bind (wpAny_askSetting (wpAny_pure ?_)))
  refine wpAny_pure ?_
  have fin : ∀ (first : Value) (h1 : Heap) (d : Drawn) (order : List (Int × Value)), (∀ b o, s.heap.get? b = some o → h1.get? b = some o) → s.heap.objs.size ≤ h1.objs.size → order.Perm es.toList →
      Way w s.heap.objs.size h1.objs.size (h1.push (itObj first 0 a es.size ep)) a es ep t order 0 first →
      wpAny (model prog w) A.in1 (do ret (← newFields "set_iterator" [first, rawInt 0, .ref a, rawInt es.size, rawInt (← setEpoch a)]))
        (fun fin s' => ∃ v, fin = .done (.ret v) ∧ ∃ T' r, s'.TypeIs v T' ∧ typeLookup (.type T') "__next__" = pure (some r) ∧ Q v s') E { s with heap := h1, drawn := d } := by
    intro first h1 d order hk hsz hpo hW
    refine wpAny_bind (wpAny_setEpoch_of (s := { s with heap := h1, drawn := d }) (hk a oa ha) hd hf ?_)
    refine wpAny_bind (wpAny_newObj_type (wpAny_pure ⟨_, rfl, "set_iterator", _, ⟨_, Heap.get?_push_size _ rfl, rfl⟩, slot_si_next.lookup, ?_⟩))
    refine h _ _ _ es ep t order ⟨hd, hf, hA, hl, hpo⟩ (fun e he => hel e (hpo.mem_iff.mp he)) ((hpo.map keyOf).trans hp) ⟨Heap.get?_push_of_some _ (hk a oa ha), first, Heap.get?_push_size _ rfl, hW⟩ (fun b o e => Heap.get?_push_of_some _ (hk b o e)) (size_push' _ _) hsz
  by_cases hx : byText w = true
  · have e1 : (model prog w).w.params.followText "set-order" = true := hx
    rw [e1]
    rw [if_neg (by simp)]
    refine wpAny_bind (wpAny_pure ?_)
    exact fin (.int 0 0) s.heap s.drawn _ (fun _ _ e => e) (Nat.le_refl _) (pick_perm _ es) (.inl ⟨hx, rfl, rfl⟩)
  · have hx : byText w = false := by simpa using hx
    have e1 : (model prog w).w.params.followText "set-order" = false := hx
    rw [e1]
    show wpAny (model prog w) A.in1 (if (!false && (!t.plain && decide (es.size > 1))) = true then _ else _) _ E s
    by_cases hdr : (!t.plain && decide (es.size > 1)) = true
    · rw [if_pos (show (!false && (!t.plain && decide (es.size > 1))) = true by rw [hdr]; rfl)]
      refine wpAny_bind (wp_drawOrder es.size (List.range es.size) (by rw [List.length_range]; exact Nat.le_refl _) fun ps d hps => ?_)
      have hsz := size_of_perm hp
      refine wpAny_bind (wpAny_newObj_type ?_ ?_)
      · refine fin (.ref s.heap.objs.size) _ d (ps.filterMap (es[·]?)) (fun b o e => Heap.get?_push_of_some _ e) (by rw [size_push']; exact Nat.le_succ _) ((hps.filterMap _).trans (by rw [filterMap_getElem?_range])) (.inr (.inr ⟨hx, _, ps, rfl, ⟨Nat.le_refl _, by rw [size_push']; exact Nat.lt_succ_self _⟩, ?_, ?_, ?_, rfl⟩))
        · exact Heap.get?_push_of_some _ (Heap.get?_push_size _ rfl)
        · rw [hps.length_eq, List.length_range]
        · intro p hpm
          exact List.mem_range.mp (hps.mem_iff.mp hpm)
      · have hpl : ps.length = es.size := by rw [hps.length_eq, List.length_range]
        show (List.map (fun (i : Nat) => rawInt i) ps).toArray.size ≤ sizeLine
        rw [List.size_toArray, List.length_map, hpl, hsz, sizeLine_eq]; omega
    · rw [if_neg (show ¬ (!false && (!t.plain && decide (es.size > 1))) = true from hdr)]
      refine wpAny_bind (wpAny_pure ?_)
      exact fin (.int 0 0) s.heap s.drawn es.toList (fun _ _ e => e) (Nat.le_refl _) (.refl _) (.inr (.inl ⟨hx, ⟨0, rfl, below_zero hA⟩, by simpa using hdr, rfl⟩))
end
end Mine
end
section
open PySem PySem.W PyProof.Rows PySem.Calls PySem.Spec
set_option maxRecDepth 100000
namespace Mine
theorem split_set_len : splitId "set.__len__" = some ("set", "__len__") := by kernel_rfl
theorem ents_ints : ∀ {l : List (Int × Value)} {acc : List Value}, EntsOf l → acc = l.map (·.2) → IntsAre acc (l.map keyOf)
  | [], _, _, e => by subst e; exact .nil
  | x :: r, _, h, e => by
    subst e
    obtain ⟨k, u, rfl⟩ := h x List.mem_cons_self
    exact .cons k u (ents_ints (fun y hy => h y (List.mem_cons_of_mem _ hy)) rfl)
section
variable {prog : Program} {w : World} {A : Around} {E : Value → Shared → Prop} {s : Shared} {I a : Addr} {oa : Obj} {ks : List Int}
theorem walks_set {B : Nat} {es : Array (Int × Value)} {ep : Nat} {t : SetTable} {order : List (Int × Value)} (H : SetNow w oa es ep t order) (hh : A.handled = none) (hB : B ≤ I) :
    Walks prog w A I (a :: (List.range (I + 1)).filter (fun b => decide (B ≤ b))) [I] es.size (fun i v => (order.map (·.2))[i]? = some v) (fun i h => SIt w B I a oa es ep t order i h) where
  sub := fun b hb => by
    rw [List.mem_singleton.mp hb]
    exact List.mem_cons_of_mem _ (List.mem_filter.mpr ⟨List.mem_range.mpr (Nat.lt_succ_self _), by simpa using hB⟩)
  frame := fun i h h' st hk => by
    obtain ⟨x1, first, x2, x3⟩ := st
    have hI : I ∈ (a :: (List.range (I + 1)).filter (fun b => decide (B ≤ b))) := List.mem_cons_of_mem _ (List.mem_filter.mpr ⟨List.mem_range.mpr (Nat.lt_succ_self _), by simpa using hB⟩)
    refine ⟨hk _ List.mem_cons_self _ x1, first, hk _ hI _ x2, ?_⟩
    rcases x3 with x3 | x3 | ⟨y0, T, ps, y1, y2, y3, y4⟩
    · exact .inl x3
    · exact .inr (.inl x3)
    · exact .inr (.inr ⟨y0, T, ps, y1, y2, hk T (List.mem_cons_of_mem _ (List.mem_filter.mpr ⟨List.mem_range.mpr (Nat.lt_succ_of_lt y2.2), by simpa using y2.1⟩)) _ y3, y4⟩)
  item := fun i s Q E hi st hQ => si_next H st hh (fun h' tk _ st' hk x hx => hQ x.2 h' tk (by rw [List.getElem?_map, hx]; rfl) st' hk) fun h' tk hge _ => absurd hi (Nat.not_lt.mpr hge)
  done := fun s Q E st hQ => si_next H st hh (fun h' tk hlt _ _ _ _ => absurd hlt (Nat.lt_irrefl _)) fun h' tk _ hk => hQ h' tk hk
  self := fun i s Q E st hQ => by
    obtain ⟨_, first, x2, _⟩ := st
    have hT : s.TypeIs (.ref I) "set_iterator" := ⟨_, x2, rfl⟩
    refine wpAny_pyIter_slot hT slot_si_iter (wpAny_call_entry slot_si_iter hT entry_si_iter ?_ (args_si_iter _))
    show wpAny _ _ (ret (.ref I)) _ _ s
    exact wpAny_pure ⟨_, rfl, "set_iterator", _, hT, slot_si_next.lookup, hQ⟩
theorem collect_set {Q : List Value → Shared → Prop} (hh : A.handled = none) (ha : s.heap.get? a = some oa) (hS : SetIs w oa ks) (hl64 : ks.length < 64)
    (h : ∀ vs ns d h' tk, IntsAre vs ns → ns.Perm ks → s.heap.objs.size < h'.objs.size → (∀ b o, s.heap.get? b = some o → h'.get? b = some o) → Q vs { s with heap := h', drawn := d, toks := tk }) :
    wpAny (model prog w) A (collect (.ref a)) Q E s := by
  have hlt : a < s.heap.objs.size := Heap.lt_size ha
  unfold collect
  refine wpAny_bind (wpAny_runValue (codeAny_builtin F.entry_proto_collect ?_))
  rw [Around.under_plainId F.plain_proto_collect _]
  show wpAny _ A.in1 (newList [] >>= fun l => again (.builtin "list.__iadd__" ⟨[l, .ref a], []⟩)) _ _ s
  refine wpAny_bind (wpAny_newObj_type ?_)
  refine wpAny_pure ⟨plainId_quiet F.plain_list_iadd _, codeAny_builtin F.entry_list_iadd ?_⟩
  rw [Around.under_plainId F.plain_list_iadd _]
  have h1 : Builtin.List.listSameRef (.ref s.heap.objs.size) (.ref a) = false := by simp [Builtin.List.listSameRef]; exact Ne.symm (Nat.ne_of_lt hlt)
  have ha1 : (s.heap.push { cls := .type "list", data := .seq ([] : List Value).toArray }).get? a = some oa := Heap.get?_push_of_some _ ha
  have hT : Shared.TypeIs { s with heap := s.heap.push { cls := .type "list", data := .seq ([] : List Value).toArray } } (.ref a) "set" := ⟨oa, ha1, hS.1.1⟩
  show wpAny _ A.in1 (Builtin.List.listExtendWith (.ref s.heap.objs.size) (.ref a) (.ref s.heap.objs.size)) _ _ _
  unfold Builtin.List.listExtendWith
  refine wpAny_bind (wpAny_typeOf hT ?_)
  rw [if_neg (by rw [h1]; decide)]
  refine wpAny_bind (iter_set (s := { s with heap := s.heap.push { cls := .type "list", data := .seq ([] : List Value).toArray } }) ha1 hS hl64 fun I h' d es ep t order HN he hpk st hk hsz hI => ?_)
  have ha2 : h'.get? a = some oa := hk a oa ha1
  have hT2 : Shared.TypeIs { s with heap := h', drawn := d } (.ref a) "set" := ⟨oa, ha2, hS.1.1⟩
  refine wpAny_bind (wpAny_holding ?_)
  unfold Builtin.List.listLengthHint
  refine wpAny_bind (wpAny_specialOf hT2 F.slot_set_len.lookup ?_)
  (generalize hid : ("set.__len__" : String) = id0; (fail_if_success (clear hid id0)); wp_delta; rw [show splitId id0 = some ("set", "__len__") from by subst hid; decide +kernel]; subst hid)
  refine wpAny_bind (wpAny_isInstance (b := true) hT2 sub_ss ?_)
  refine wpAny_bind (wpAny_typeOf hT2 ?_)
  refine wpAny_pure ?_
  rw [if_pos (by decide)]
  refine wpAny_bind (wpAny_rule ?_)
  have hL0 : h'.get? s.heap.objs.size = some { cls := .type "list", data := .seq ([] : List Value).toArray } := hk _ _ (Heap.get?_push_size _ rfl)
  refine wpAny_bind ?_
  show wpAny _ A.in1 (updateSeq s.heap.objs.size (·.push .none) >>= fun _ => updateSeq s.heap.objs.size (·.pop)) _ _ _
  refine wpAny_bind (wpAny_updateSeq hL0 rfl ?_)
  have hL1 := Heap.get?_update_self (Obj.mapSeq (·.push Value.none)) hL0 rfl
  refine wpAny_updateSeq hL1 rfl ?_
  have hL2 := Heap.get?_update_self (Obj.mapSeq (·.pop)) hL1 rfl
  have oth : ∀ b o, b ≠ s.heap.objs.size → h'.get? b = some o → ((h'.update s.heap.objs.size (Obj.mapSeq (·.push Value.none))).update s.heap.objs.size (Obj.mapSeq (·.pop))).get? b = some o :=
    fun b o hb e => (Heap.get?_update_other _ _ (Ne.symm hb)).trans ((Heap.get?_update_other _ _ (Ne.symm hb)).trans e)
  have hI' : s.heap.objs.size + 1 ≤ I := by
    have := size_push' s.heap { cls := .type "list", data := .seq ([] : List Value).toArray }
    rw [← this]; exact hI
  have eB : (s.heap.push { cls := .type "list", data := .seq ([] : List Value).toArray }).objs.size = s.heap.objs.size + 1 := size_push' _ _
  have W := walks_set (prog := prog) (A := A.in1) (I := I) (a := a) HN hh (B := s.heap.objs.size + 1) hI'
  have hSf : s.heap.objs.size ∉ (a :: (List.range (I + 1)).filter (fun b => decide (s.heap.objs.size + 1 ≤ b))) := by
    intro hm
    rcases List.mem_cons.mp hm with h9 | h9
    · exact absurd hlt (by rw [h9]; exact Nat.lt_irrefl _)
    · have := (List.mem_filter.mp h9).2
      simp only [decide_eq_true_eq] at this
      exact absurd this (Nat.not_succ_le_self _)
  have hn : es.size = ks.length := by rw [← HN.len]; have := hpk.length_eq; rw [List.length_map] at this; exact this
  have st2 := W.frame 0 _ ((h'.update s.heap.objs.size (Obj.mapSeq (·.push Value.none))).update s.heap.objs.size (Obj.mapSeq (·.pop))) (by rw [← eB]; exact st) fun b hb o e => oth b o (fun q => hSf (q ▸ hb)) e
  refine wpAny_pure ⟨plainId_quiet F.plain_extend_loop _, codeAny_extend_loopS W.toS (by rw [hn, sizeLine_eq]; omega) _ hSf _ es.size 0 _ _ _ rfl (Nat.zero_le _) st2 hL2 (ItemsOf.nil _) fun s' acc' c' hm hS' hacc => ?_⟩
  show wpAny _ A (load s.heap.objs.size >>= _) _ _ s'
  refine wpAny_bind (wpAny_load hS' ?_)
  have eacc : acc'.toList = order.map (·.2) := by
    refine List.ext_getElem? fun j => ?_
    rw [Array.getElem?_toList]
    cases e : acc'[j]? with
    | some v => rw [hacc.2 j v e]
    | none =>
      have h9 : acc'.size ≤ j := by simpa using e
      rw [hacc.1] at h9
      rw [List.getElem?_eq_none (by rw [List.length_map, HN.len]; exact h9)]
  obtain ⟨x1, x2, x3, x4, x5⟩ := hm
  obtain ⟨hp', g', d', tk', os'⟩ := s'
  dsimp only at x1 x2 x3 x4 hS'
  subst x2 x3 x4
  refine wpAny_pure (h acc'.toList (order.map keyOf) d' hp' tk' (ents_ints he eacc) hpk (Heap.lt_size hS') fun b o e => ?_)
  have hb9 : b < s.heap.objs.size := Heap.lt_size e
  refine x1 b o (fun hm => ?_) (oth b o (Nat.ne_of_lt hb9) (hk b o (Heap.get?_push_of_some _ e)))
  rcases List.mem_cons.mp hm with h9 | h9
  · exact Nat.ne_of_lt hb9 h9
  · have := List.mem_singleton.mp h9
    rw [this] at hb9
    exact absurd hb9 (Nat.not_lt.mpr (Nat.le_of_succ_le hI'))
theorem sorted_set {Q : Value → Shared → Prop} (hh : A.handled = none) (ha : s.heap.get? a = some oa) (hS : SetIs w oa ks) (hl64 : ks.length < 64)
    (h : ∀ D (out : List Value) (ns : List Int) n d h' tk, IntsAre out ns → ns.Perm ks → (∀ b o, s.heap.get? b = some o → h'.get? b = some o) → h'.get? D = some (W.listOf out.toArray n) → s.heap.objs.size ≤ D → Q (.ref D) { s with heap := h', drawn := d, toks := tk }) :
    wpAny (model prog w) A (call (.builtin "sorted") [.ref a]) Q E s := by
  refine Calls.call_function_entry kind_sorted plain_sorted entry_sorted (args_sorted1 _) ?_
  unfold Builtin.«sorted»
  refine wpAny_bind (m := checkCount "sorted" 1 1 _) (wpAny_pure ?_)
  refine wpAny_bind (collect_set hh ha hS hl64 fun vs ns d h1 tk hI hp hsz hk => ?_)
  have h64 : vs.length < 64 := by rw [hI.length, hp.length_eq]; exact hl64
  refine wpAny_bind (wpAny_newList ?_ (by rw [sizeLine_eq]; omega))
  have hoL : (h1.push (seqObj "list" vs.toArray 0)).get? h1.objs.size = some (seqObj "list" vs.toArray 0) := Heap.get?_push_size _ rfl
  refine wpAny_bind (wpAny_holding (wpAny_call_entry slot_list_sort ⟨_, hoL, rfl⟩ entry_list_sort (list_sort_tree (s := { s with heap := h1.push (seqObj "list" vs.toArray 0), drawn := d, toks := tk }) hoL hI h64 fun out ns' a1 a2 a3 => ⟨_, rfl, ?_⟩) (args_list_sort _)))
  obtain ⟨n9, hn9⟩ := sortedHeap_at (out := out) hoL
  refine wpAny_pure ⟨_, rfl, h h1.objs.size out.toList ns' n9 d _ tk a1 (a2.trans hp) (fun b o e => ?_) hn9 (Nat.le_of_lt hsz)⟩
  rw [sortedHeap_old (Nat.ne_of_lt (Heap.lt_size (hk b o e))) (by rw [size_push']; exact Nat.lt_succ_of_lt (Heap.lt_size (hk b o e)))]
  exact Heap.get?_push_of_some _ (hk b o e)
theorem r_sorted_set {h₀ : Heap} {L : Addr} {m : Str → Option Value} {news : List (Addr × Obj)} {Q : Value → Shared → Prop} (hh : A.handled = none) (F : Fr h₀ L s.heap m) (N : News h₀ L s.heap news) (hm : (a, oa) ∈ news) (hS : SetIs w oa ks) (hl64 : ks.length < 64)
    (h : ∀ D (out : List Value) (ns : List Int) n (h' : Heap) (d : Drawn) (tk : Nat), IntsAre out ns → ns.Perm ks → Fr h₀ L h' m → News h₀ L h' ((D, listOf out.toArray n) :: news) → (∀ p ∈ news, p.1 < D) → Q (.ref D) { s with heap := h', drawn := d, toks := tk }) :
    wpAny (model prog w) A (call (.builtin "sorted") [.ref a]) Q E s :=
  sorted_set hh (N _ hm).1 hS hl64 fun D out ns n d h' tk x1 x2 x3 x4 x5 =>
    h D out ns n h' d tk x1 x2 (F.kept x3) (News.kept_cons F N x3 x5 x4) fun p hp => Nat.lt_of_lt_of_le (Heap.lt_size (N p hp).1) x5
end
end Mine
end
section
open PySem PySem.W PyProof.Rows
namespace Mine
/-! the bits of the masks -/
theorem fullN_succ (c : Nat) : fullN (c + 1) = fullN c * (2 ^ (2 ^ c) + 1) := by
  unfold fullN
  have e : 2 ^ (2 ^ (c + 1)) = 2 ^ (2 ^ c) * 2 ^ (2 ^ c) := by rw [← Nat.pow_add, Nat.pow_succ]; congr 1; omega
  rw [e]
  have hp := Nat.two_pow_pos (2 ^ c)
  generalize 2 ^ (2 ^ c) = z at hp ⊢
  obtain ⟨y, rfl⟩ : ∃ y, z = y + 1 := ⟨z - 1, by omega⟩
  have e1 : (y + 1) * (y + 1) = y * (y + 1 + 1) + 1 := by
    simp only [Nat.add_mul, Nat.mul_add, Nat.mul_one, Nat.one_mul]; omega
  rw [e1, Nat.add_sub_cancel, Nat.add_sub_cancel]
theorem full_dvd (k : Nat) : ∀ c, k < c → (2 ^ (2 ^ k) + 1) ∣ fullN c
  | 0, h => absurd h (Nat.not_lt_zero _)
  | c + 1, h => by
    rw [fullN_succ]
    rcases Nat.lt_or_ge k c with h1 | h1
    · exact Nat.dvd_trans (full_dvd k c h1) (Nat.dvd_mul_right _ _)
    · have : k = c := by omega
      subst this
      exact Nat.dvd_mul_left _ _
theorem mask_self (k : Nat) : maskN (k + 1) k = 2 ^ (2 ^ k) - 1 := by
  unfold maskN
  rw [fullN_succ, Nat.mul_div_cancel _ (Nat.succ_pos _)]
  rfl
theorem mask_succ {c k : Nat} (h : k < c) : maskN (c + 1) k = 2 ^ (2 ^ c) * maskN c k + maskN c k := by
  unfold maskN
  rw [fullN_succ]
  obtain ⟨d, hd⟩ := full_dvd k c h
  rw [hd, Nat.mul_assoc, Nat.mul_div_cancel_left _ (Nat.succ_pos _), Nat.mul_div_cancel_left _ (Nat.succ_pos _), Nat.mul_add, Nat.mul_one, Nat.mul_comm]
theorem mask_lt (c k : Nat) : maskN c k < 2 ^ (2 ^ c) := Nat.lt_of_le_of_lt (maskN_le c k) (fullN_lt c)
theorem bit_add {c p k : Nat} (h : k < c) : (2 ^ c + p).testBit k = p.testBit k := by
  rw [Nat.add_comm, Nat.testBit_eq_decide_div_mod_eq, Nat.testBit_eq_decide_div_mod_eq]
  obtain ⟨d, rfl⟩ : ∃ d, c = k + 1 + d := ⟨c - (k + 1), by omega⟩
  have e : 2 ^ (k + 1 + d) = 2 ^ k * (2 * 2 ^ d) := by rw [Nat.pow_add, Nat.pow_succ, Nat.mul_assoc]
  rw [e, Nat.add_mul_div_left _ _ (Nat.two_pow_pos k), Nat.add_mul_mod_self_left]
theorem mask_bit {k : Nat} : ∀ c, k < c → ∀ p, (maskN c k).testBit p = (decide (p < 2 ^ c) && !p.testBit k)
  | 0, h, _ => absurd h (Nat.not_lt_zero _)
  | c + 1, h, p => by
    have e2 : 2 ^ (c + 1) = 2 ^ c + 2 ^ c := by rw [Nat.pow_succ]; omega
    rcases Nat.lt_or_ge k c with h1 | h1
    · rw [mask_succ h1, Nat.testBit_two_pow_mul_add _ (mask_lt c k)]
      split
      · rename_i hp
        rw [mask_bit c h1 p, decide_eq_true hp, decide_eq_true (show p < 2 ^ (c + 1) by omega)]
      · rename_i hp
        rw [mask_bit c h1 (p - 2 ^ c)]
        have e : p = 2 ^ c + (p - 2 ^ c) := by omega
        have e3 : p.testBit k = (p - 2 ^ c).testBit k := by
          conv => lhs; rw [e]
          exact bit_add h1
        rw [e3]
        congr 1
        exact decide_eq_decide.mpr (by omega)
    · have : k = c := by omega
      subst this
      rw [mask_self, Nat.testBit_two_pow_sub_one]
      by_cases hp : p < 2 ^ k
      · rw [decide_eq_true hp, decide_eq_true (show p < 2 ^ (k + 1) by omega), Nat.testBit_lt_two_pow hp]; rfl
      · rw [decide_eq_false hp]
        by_cases hq : p < 2 ^ (k + 1)
        · have : p.testBit k = true := by
            rw [Nat.testBit_eq_decide_div_mod_eq]
            have : p / 2 ^ k = 1 := by
              rw [Nat.div_eq_of_lt_le] <;> omega
            rw [this]; rfl
          rw [this]; simp
        · rw [decide_eq_false hq]; rfl
theorem full_bit (c p : Nat) : (fullN c).testBit p = decide (p < 2 ^ c) := by
  unfold fullN; exact Nat.testBit_two_pow_sub_one _ _
/-! parities -/
def par {α : Type} (f : α → Bool) (l : List α) : Bool := l.foldl (fun b x => b ^^ f x) false
theorem par_nil {α : Type} (f : α → Bool) : par f [] = false := rfl
theorem par_snoc {α : Type} (f : α → Bool) (l : List α) (x : α) : par f (l ++ [x]) = (par f l ^^ f x) := by
  unfold par; rw [List.foldl_append]; rfl
theorem par_xor {α : Type} (f g : α → Bool) (l : List α) : (par f l ^^ par g l) = par (fun x => f x ^^ g x) l := by
  refine snoc_ind (P := fun l => (par f l ^^ par g l) = par (fun x => f x ^^ g x) l) rfl (fun l x ih => ?_) l
  rw [par_snoc, par_snoc, par_snoc, ← ih]
  cases par f l <;> cases par g l <;> cases f x <;> cases g x <;> rfl
theorem par_and {α : Type} (b : Bool) (f : α → Bool) (l : List α) : (b && par f l) = par (fun x => b && f x) l := by
  refine snoc_ind (P := fun l => (b && par f l) = par (fun x => b && f x) l) (by cases b <;> rfl) (fun l x ih => ?_) l
  rw [par_snoc, par_snoc, ← ih]
  cases b <;> cases par f l <;> cases f x <;> rfl
theorem par_congr {α : Type} {f g : α → Bool} {l : List α} (h : ∀ x ∈ l, f x = g x) : par f l = par g l := by
  revert h
  refine snoc_ind (P := fun l => (∀ x ∈ l, f x = g x) → par f l = par g l) (fun _ => rfl) (fun l x ih h => ?_) l
  rw [par_snoc, par_snoc, ih (fun y hy => h y (List.mem_append_left _ hy)), h x (List.mem_append_right _ List.mem_cons_self)]
/-! the bits of the table -/
/-- every bit of x below c is one of p -/
def sub (c x p : Nat) : Bool := decide (∀ j, j < c → x.testBit j = true → p.testBit j = true)
theorem part_bit {c one : Nat} (p : Nat) : ∀ k, k ≤ c → (partN c one k).testBit p = (decide (p < 2 ^ c) && sub k one p)
  | 0, _ => by
    have : sub 0 one p = true := by unfold sub; simp
    rw [this]
    exact (full_bit c p).trans (by simp)
  | k + 1, h => by
    have ih := part_bit (c := c) (one := one) p k (by omega)
    unfold partN
    have step : sub (k + 1) one p = (sub k one p && (!one.testBit k || p.testBit k)) := by
      unfold sub
      rw [Bool.eq_iff_iff]
      simp only [decide_eq_true_eq, Bool.and_eq_true, Bool.or_eq_true, Bool.not_eq_true']
      constructor
      · intro hs
        refine ⟨fun j hj => hs j (by omega), ?_⟩
        cases ho : one.testBit k with
        | false => exact .inl rfl
        | true => exact .inr (hs k (by omega) ho)
      · rintro ⟨h1, h2⟩ j hj ho
        rcases Nat.lt_or_ge j k with h3 | h3
        · exact h1 j h3 ho
        · have : j = k := by omega
          subst this
          rcases h2 with h2 | h2
          · rw [ho] at h2; cases h2
          · exact h2
    by_cases hb : one.testBit k = true
    · rw [if_pos hb, Nat.testBit_and, ih, Nat.testBit_xor, full_bit, mask_bit (k := k) c (by omega), step, hb]
      cases decide (p < 2 ^ c) <;> cases p.testBit k <;> cases sub k one p <;> rfl
    · rw [if_neg hb, ih, step]
      have hb : one.testBit k = false := by simpa using hb
      rw [hb]
      cases decide (p < 2 ^ c) <;> cases sub k one p <;> rfl
theorem table_bit (c p : Nat) (xs : List Nat) : (tableN c xs).testBit p = par (fun x => decide (p < 2 ^ c) && sub c x p) xs := by
  refine snoc_ind (P := fun xs => (tableN c xs).testBit p = par (fun x => decide (p < 2 ^ c) && sub c x p) xs) (Nat.zero_testBit p) (fun xs x ih => ?_) xs
  rw [tableN_snoc, Nat.testBit_xor, ih, par_snoc, part_bit p c (Nat.le_refl _)]
theorem sub_and {c x p : Nat} (hx : x < 2 ^ c) : sub c x p = decide (x &&& p = x) := by
  unfold sub
  refine decide_eq_decide.mpr ⟨fun h => ?_, fun h j _ hj => ?_⟩
  · refine Nat.eq_of_testBit_eq fun j => ?_
    rw [Nat.testBit_and]
    cases hj : x.testBit j with
    | false => rfl
    | true =>
      have : j < c := by
        rcases Nat.lt_or_ge j c with h1 | h1
        · exact h1
        · rw [Nat.testBit_lt_two_pow (Nat.lt_of_lt_of_le hx (Nat.pow_le_pow_right (by decide) h1))] at hj; cases hj
      rw [h j this hj]; rfl
  · rw [← h, Nat.testBit_and] at hj
    exact (Bool.and_eq_true_iff.mp hj).2
def ask (xs : List Nat) (p i : Nat) : Bool := decide (xs.getD i 0 &&& p = xs.getD i 0)
theorem ask_snoc {xs : List Nat} {x p i : Nat} (h : i < xs.length) : ask (xs ++ [x]) p i = ask xs p i := by
  unfold ask
  rw [List.getD_eq_getElem?_getD, List.getD_eq_getElem?_getD, List.getElem?_append_left h]
theorem ask_last {xs : List Nat} {x p : Nat} : ask (xs ++ [x]) p xs.length = decide (x &&& p = x) := by
  unfold ask
  rw [List.getD_eq_getElem?_getD, List.getElem?_append_right (Nat.le_refl _), Nat.sub_self]
  rfl
theorem filter_ask_snoc (xs : List Nat) (x p : Nat) : (List.range (xs ++ [x]).length).filter (ask (xs ++ [x]) p) = (List.range xs.length).filter (ask xs p) ++ (if decide (x &&& p = x) = true then [xs.length] else []) := by
  rw [List.length_append, show xs.length + [x].length = xs.length + 1 from rfl, List.range_succ, List.filter_append]
  congr 1
  · refine List.filter_congr fun i hi => ask_snoc (List.mem_range.mp hi)
  · rw [← ask_last (xs := xs)]
    cases h : ask (xs ++ [x]) p xs.length with
    | true => rw [List.filter_cons_of_pos h]; rfl
    | false => rw [List.filter_cons_of_neg (by rw [h]; exact Bool.false_ne_true)]; rfl
theorem cnt_par (p : Nat) (xs : List Nat) : ((((List.range xs.length).filter (ask xs p)).map fun _ => (1 : Int)).sum) % 2 = if par (fun x => decide (x &&& p = x)) xs = true then 1 else 0 := by
  refine snoc_ind (P := fun xs => ((((List.range xs.length).filter (ask xs p)).map fun _ => (1 : Int)).sum) % 2 = if par (fun x => decide (x &&& p = x)) xs = true then 1 else 0) rfl (fun xs x ih => ?_) xs
  rw [filter_ask_snoc, List.map_append, List.sum_append, par_snoc]
  generalize ((((List.range xs.length).filter (ask xs p)).map fun _ => (1 : Int)).sum) = S at ih ⊢
  cases decide (x &&& p = x) with
  | true =>
    rw [if_pos rfl]
    cases hp : par (fun x => decide (x &&& p = x)) xs with
    | true => rw [hp, if_pos rfl] at ih; simp; omega
    | false => rw [hp, if_neg Bool.false_ne_true] at ih; simp; omega
  | false =>
    rw [if_neg Bool.false_ne_true]
    cases hp : par (fun x => decide (x &&& p = x)) xs with
    | true => rw [hp, if_pos rfl] at ih; simp; omega
    | false => rw [hp, if_neg Bool.false_ne_true] at ih; simp; omega
theorem law_bit {cc p n : Nat} {xs : List Nat} (hp : p < 2 ^ cc) (hx : ∀ x ∈ xs, x < 2 ^ cc) (hn : n = xs.length) :
    Builtin.bitAnd (((tableN cc xs : Nat) : Int).fdiv (2 ^ (p : Int).toNat)) 1 = ((((List.range n).filter (ask xs p)).map fun _ => (1 : Int)).sum).fmod 2 := by
  subst hn
  rw [Int.toNat_natCast, bit_ask, table_bit, fmod_pos (by decide), cnt_par]
  have e : par (fun x => decide (p < 2 ^ cc) && sub cc x p) xs = par (fun x => decide (x &&& p = x)) xs :=
    par_congr fun x h => by rw [decide_eq_true hp, Bool.true_and, sub_and (hx x h)]
  rw [e]
end Mine
end
section
open PySem PySem.W PyProof.Rows
namespace Mine
/-! the turned table -/
/-- as a place q stands to the product x behind i rounds -/
def stands (c i x q : Nat) : Bool := decide (∀ j, j < c → (j < i → q.testBit j = x.testBit j) ∧ (i ≤ j → x.testBit j = true → q.testBit j = true))
theorem bit_sub {q i : Nat} (h : q.testBit i = true) : 2 ^ i ≤ q ∧ ∀ j, (q - 2 ^ i).testBit j = (q.testBit j && !decide (j = i)) := by
  have hq : 2 ^ i ≤ q := Nat.ge_two_pow_of_testBit h
  refine ⟨hq, fun j => ?_⟩
  have e : q - 2 ^ i = q ^^^ 2 ^ i := by
    have h1 := nat_or_add_and (q ^^^ 2 ^ i) (2 ^ i)
    have e1 : (q ^^^ 2 ^ i) &&& 2 ^ i = 0 := by
      refine Nat.eq_of_testBit_eq fun k => ?_
      rw [Nat.testBit_and, Nat.testBit_xor, Nat.testBit_two_pow, Nat.zero_testBit]
      by_cases hk : i = k
      · subst hk; rw [h]; simp
      · simp [hk]
    have e2 : (q ^^^ 2 ^ i) ||| 2 ^ i = q := by
      refine Nat.eq_of_testBit_eq fun k => ?_
      rw [Nat.testBit_or, Nat.testBit_xor, Nat.testBit_two_pow]
      by_cases hk : i = k
      · subst hk; rw [h]; simp
      · simp [hk]
    rw [e1, e2] at h1
    omega
  rw [e, Nat.testBit_xor, Nat.testBit_two_pow]
  by_cases hj : i = j
  · subst hj; rw [h]; simp
  · have : ¬ j = i := fun e => hj e.symm
    simp [hj, this]
theorem bit_sub_no {q i : Nat} (h : q.testBit i = false) (hq : 2 ^ i ≤ q) : (q - 2 ^ i).testBit i = true := by
  rw [Nat.testBit_eq_decide_div_mod_eq] at h ⊢
  have hp := Nat.two_pow_pos i
  have e : (q - 2 ^ i) / 2 ^ i = q / 2 ^ i - 1 := by
    have := Nat.sub_mul_div q (2 ^ i) 1
    rw [Nat.mul_one] at this
    exact this
  have h1 : 1 ≤ q / 2 ^ i := (Nat.le_div_iff_mul_le hp).mpr (by omega)
  rw [e]
  have h2 : ¬ q / 2 ^ i % 2 = 1 := of_decide_eq_false h
  exact decide_eq_true (by omega)
theorem turn_bit_step {c T i q : Nat} (hi : i < c) (hT : ∀ q, (turnN c T i).testBit q = true → q < 2 ^ c) :
    (turnN c T (i + 1)).testBit q = ((turnN c T i).testBit q ^^ (q.testBit i && (turnN c T i).testBit (q - 2 ^ i))) := by
  show (turnN c T i ^^^ ((turnN c T i &&& maskN c i) * 2 ^ (2 ^ i))).testBit q = _
  rw [Nat.testBit_xor, Nat.testBit_mul_two_pow, Nat.testBit_and, mask_bit c hi]
  congr 1
  cases hq : q.testBit i with
  | true =>
    obtain ⟨h1, h2⟩ := bit_sub hq
    rw [decide_eq_true h1, h2 i, hq]
    cases ht : (turnN c T i).testBit (q - 2 ^ i) with
    | true => rw [decide_eq_true (hT _ ht)]; simp
    | false => simp
  | false =>
    by_cases h1 : 2 ^ i ≤ q
    · rw [bit_sub_no hq h1]; simp
    · rw [decide_eq_false h1]; simp
theorem stands_zero (c x q : Nat) : stands c 0 x q = sub c x q := by
  unfold stands sub
  exact decide_eq_decide.mpr ⟨fun h j hj => (h j hj).2 (Nat.zero_le _), fun h j hj => ⟨fun h0 => absurd h0 (Nat.not_lt_zero _), fun _ => h j hj⟩⟩
theorem stands_step {c i x q : Nat} (hi : i < c) : stands c (i + 1) x q = (stands c i x q ^^ (q.testBit i && stands c i x (q - 2 ^ i))) := by
  cases hq : q.testBit i with
  | false =>
    rw [Bool.false_and, Bool.xor_false]
    unfold stands
    refine decide_eq_decide.mpr ⟨fun h j hj => ?_, fun h j hj => ?_⟩
    · refine ⟨fun h1 => (h j hj).1 (by omega), fun h1 => ?_⟩
      rcases Nat.lt_or_ge i j with h2 | h2
      · exact (h j hj).2 h2
      · have e : j = i := by omega
        subst e
        rw [(h j hj).1 (Nat.lt_succ_self _)]; exact id
    · refine ⟨fun h1 => ?_, fun h1 => (h j hj).2 (by omega)⟩
      rcases Nat.lt_or_ge j i with h2 | h2
      · exact (h j hj).1 h2
      · have e : j = i := by omega
        subst e
        have := (h j hj).2 (Nat.le_refl _)
        rw [hq] at this ⊢
        cases hx : x.testBit j with
        | false => rfl
        | true => exact absurd (this hx) Bool.false_ne_true
  | true =>
    obtain ⟨_, h2⟩ := bit_sub hq
    rw [Bool.true_and]
    have e1 : stands c i x (q - 2 ^ i) = (stands c i x q && !x.testBit i) := by
      unfold stands
      rw [Bool.eq_iff_iff]
      simp only [decide_eq_true_eq, Bool.and_eq_true, Bool.not_eq_true']
      constructor
      · intro h
        refine ⟨fun j hj => ⟨fun h1 => ?_, fun h1 hx => ?_⟩, ?_⟩
        · have := (h j hj).1 h1
          rw [h2 j, decide_eq_false (show ¬ j = i by omega)] at this
          simpa using this
        · have := (h j hj).2 h1 hx
          rw [h2 j] at this
          exact (Bool.and_eq_true_iff.mp this).1
        · have := (h i hi).2 (Nat.le_refl _)
          rw [h2 i, decide_eq_true rfl] at this
          cases hx : x.testBit i with
          | false => rfl
          | true =>
            have := this hx
            simp at this
      · rintro ⟨h, hx⟩ j hj
        refine ⟨fun h1 => ?_, fun h1 hxj => ?_⟩
        · rw [h2 j, decide_eq_false (show ¬ j = i by omega)]
          simpa using (h j hj).1 h1
        · have hne : ¬ j = i := by rintro rfl; rw [hx] at hxj; cases hxj
          rw [h2 j, decide_eq_false hne]
          simpa using (h j hj).2 h1 hxj
    have e2 : stands c (i + 1) x q = (stands c i x q && x.testBit i) := by
      unfold stands
      rw [Bool.eq_iff_iff]
      simp only [decide_eq_true_eq, Bool.and_eq_true]
      constructor
      · intro h
        refine ⟨fun j hj => ⟨fun h1 => (h j hj).1 (by omega), fun h1 hx => ?_⟩, ?_⟩
        · rcases Nat.lt_or_ge i j with h3 | h3
          · exact (h j hj).2 h3 hx
          · have e : j = i := by omega
            subst e; exact hq
        · rw [← (h i hi).1 (Nat.lt_succ_self _)]; exact hq
      · rintro ⟨h, hx⟩ j hj
        refine ⟨fun h1 => ?_, fun h1 hxj => (h j hj).2 (by omega) hxj⟩
        rcases Nat.lt_or_ge j i with h3 | h3
        · exact (h j hj).1 h3
        · have e : j = i := by omega
          subst e; rw [hq, hx]
    rw [e1, e2]
    cases stands c i x q <;> cases x.testBit i <;> rfl
theorem turn_bit {c : Nat} {xs : List Nat} : ∀ i, i ≤ c → ∀ q, (turnN c (tableN c xs) i).testBit q = (decide (q < 2 ^ c) && par (fun x => stands c i x q) xs)
  | 0, _, q => by
    show (tableN c xs).testBit q = _
    rw [table_bit, ← par_and]
    congr 1
    exact par_congr fun x _ => (stands_zero c x q).symm
  | i + 1, h, q => by
    have ih := turn_bit (c := c) (xs := xs) i (by omega)
    rw [turn_bit_step (by omega) (fun q hq => by
      rw [ih q] at hq
      exact of_decide_eq_true (Bool.and_eq_true_iff.mp hq).1), ih q, ih (q - 2 ^ i)]
    have e : par (fun x => stands c (i + 1) x q) xs = (par (fun x => stands c i x q) xs ^^ (q.testBit i && par (fun x => stands c i x (q - 2 ^ i)) xs)) := by
      rw [par_and, par_xor]
      exact par_congr fun x _ => stands_step (by omega)
    rw [e]
    by_cases hq : q < 2 ^ c
    · rw [decide_eq_true hq, decide_eq_true (Nat.lt_of_le_of_lt (Nat.sub_le q (2 ^ i)) hq)]; simp
    · rw [decide_eq_false hq]
      cases hb : q.testBit i with
      | false => simp
      | true =>
        by_cases h9 : q - 2 ^ i < 2 ^ c
        · exfalso
          obtain ⟨h3, h4⟩ := bit_sub hb
          have h5 : (q - 2 ^ i).testBit i = false := by rw [h4 i, decide_eq_true rfl]; simp
          have h6 : (q - 2 ^ i) ||| 2 ^ i < 2 ^ c := Nat.or_lt_two_pow h9 (Nat.pow_lt_pow_right (by decide) (by omega))
          have h7 : (q - 2 ^ i) &&& 2 ^ i = 0 := by
            refine Nat.eq_of_testBit_eq fun k => ?_
            rw [Nat.testBit_and, Nat.testBit_two_pow, Nat.zero_testBit]
            by_cases hk : i = k
            · subst hk; rw [h5]; rfl
            · simp [hk]
          have h8 := nat_or_add_and (q - 2 ^ i) (2 ^ i)
          rw [h7] at h8
          omega
        · rw [decide_eq_false h9]; simp
theorem stands_all {c x q : Nat} (hx : x < 2 ^ c) (hq : q < 2 ^ c) : stands c c x q = decide (q = x) := by
  unfold stands
  refine decide_eq_decide.mpr ⟨fun h => ?_, fun h j _ => ?_⟩
  · refine Nat.eq_of_testBit_eq fun j => ?_
    rcases Nat.lt_or_ge j c with h1 | h1
    · exact (h j h1).1 h1
    · have h2 : 2 ^ c ≤ 2 ^ j := Nat.pow_le_pow_right (by decide) h1
      rw [Nat.testBit_lt_two_pow (Nat.lt_of_lt_of_le hq h2), Nat.testBit_lt_two_pow (Nat.lt_of_lt_of_le hx h2)]
  · subst h; exact ⟨fun _ => rfl, fun _ => id⟩
/-! sums of powers -/
def powS (ks : List Nat) : Nat := (ks.map fun k => 2 ^ k).sum
theorem powS_bit : ∀ (ks : List Nat), ks.Nodup → ∀ q, (powS ks).testBit q = decide (q ∈ ks)
  | [], _, q => by rw [show powS [] = 0 from rfl, Nat.zero_testBit]; simp
  | k :: r, h, q => by
    obtain ⟨h1, h2⟩ := List.nodup_cons.mp h
    have ih := powS_bit r h2
    have e : powS (k :: r) = powS r ||| 2 ^ k := by
      have h7 : powS r &&& 2 ^ k = 0 := by
        refine Nat.eq_of_testBit_eq fun j => ?_
        rw [Nat.testBit_and, ih j, Nat.testBit_two_pow, Nat.zero_testBit]
        by_cases hk : k = j
        · subst hk; rw [decide_eq_false h1]; rfl
        · simp [hk]
      have h8 := nat_or_add_and (powS r) (2 ^ k)
      rw [h7] at h8
      show 2 ^ k + powS r = _
      omega
    rw [e, Nat.testBit_or, ih q, Nat.testBit_two_pow]
    by_cases hk : k = q
    · subst hk; simp
    · have : ¬ q = k := fun e => hk e.symm
      simp [hk, this]
def flipN (ks : List Nat) (k : Nat) : List Nat := if k ∈ ks then ks.erase k else ks ++ [k]
def keptN (xs : List Nat) : List Nat := xs.foldl flipN []
theorem keptN_snoc (xs : List Nat) (x : Nat) : keptN (xs ++ [x]) = flipN (keptN xs) x := by
  unfold keptN; rw [List.foldl_append]; rfl
theorem keptN_nodup (xs : List Nat) : (keptN xs).Nodup := by
  refine snoc_ind (P := fun xs => (keptN xs).Nodup) List.nodup_nil (fun xs x ih => ?_) xs
  rw [keptN_snoc]
  unfold flipN
  split
  · exact ih.erase _
  · rename_i h
    rw [List.nodup_append]
    refine ⟨ih, by simp, fun a ha b hb => ?_⟩
    rw [List.mem_singleton.mp hb]
    rintro rfl
    exact h ha
theorem keptN_mem (q : Nat) (xs : List Nat) : decide (q ∈ keptN xs) = par (fun x => decide (q = x)) xs := by
  refine snoc_ind (P := fun xs => decide (q ∈ keptN xs) = par (fun x => decide (q = x)) xs) (by simp [keptN, par]) (fun xs x ih => ?_) xs
  rw [keptN_snoc, par_snoc, ← ih]
  have hn := keptN_nodup xs
  unfold flipN
  by_cases hx : x ∈ keptN xs
  · rw [if_pos hx]
    by_cases hq : q = x
    · subst hq
      rw [decide_eq_true hx, decide_eq_true rfl, decide_eq_false]
      · rfl
      · rw [hn.mem_erase_iff]; exact fun h => h.1 rfl
    · rw [decide_eq_false hq, Bool.xor_false]
      exact decide_eq_decide.mpr (by rw [hn.mem_erase_iff]; exact ⟨fun h => h.2, fun h => ⟨hq, h⟩⟩)
  · rw [if_neg hx]
    by_cases hq : q = x
    · subst hq
      rw [decide_eq_false hx, decide_eq_true rfl, decide_eq_true]
      · rfl
      · exact List.mem_append_right _ List.mem_cons_self
    · rw [decide_eq_false hq, Bool.xor_false]
      refine decide_eq_decide.mpr ⟨fun h => ?_, fun h => List.mem_append_left _ h⟩
      rcases List.mem_append.mp h with h | h
      · exact h
      · exact absurd (List.mem_singleton.mp h) hq
theorem turn_pow {c : Nat} {xs : List Nat} (hx : ∀ x ∈ xs, x < 2 ^ c) : turnN c (tableN c xs) c = powS (keptN xs) := by
  refine Nat.eq_of_testBit_eq fun q => ?_
  rw [turn_bit c (Nat.le_refl _), powS_bit _ (keptN_nodup xs), keptN_mem]
  by_cases hq : q < 2 ^ c
  · rw [decide_eq_true hq, Bool.true_and]
    exact par_congr fun x h => stands_all (hx x h) hq
  · rw [decide_eq_false hq, Bool.false_and]
    have e : par (fun x => decide (q = x)) xs = par (fun _ => false) xs := par_congr fun x h => decide_eq_false (fun e => hq (by rw [e]; exact hx x h))
    rw [e]
    exact (snoc_ind (P := fun xs => false = par (fun (_ : Nat) => false) xs) rfl (fun xs x ih => by rw [par_snoc, ← ih]; rfl) xs)
theorem keptL_eq (xs : List Nat) : (xs.map fun (x : Nat) => (x : Int)).foldl flipL [] = (keptN xs).map fun (x : Nat) => (x : Int) := by
  refine snoc_ind (P := fun xs => (xs.map fun (x : Nat) => (x : Int)).foldl flipL [] = (keptN xs).map fun (x : Nat) => (x : Int)) rfl (fun xs x ih => ?_) xs
  rw [List.map_append, List.foldl_append, ih, keptN_snoc]
  show flipL _ (x : Int) = _
  have hm : ((x : Int) ∈ (keptN xs).map fun (x : Nat) => (x : Int)) ↔ x ∈ keptN xs := by
    rw [List.mem_map]
    exact ⟨fun ⟨y, hy, e⟩ => by rw [← Int.ofNat.inj e]; exact hy, fun h => ⟨x, h, rfl⟩⟩
  unfold flipL flipN
  by_cases hx : x ∈ keptN xs
  · rw [if_pos (hm.mpr hx), if_pos hx]
    generalize keptN xs = l
    clear hm ih hx
    induction l with
    | nil => rfl
    | cons y r ih =>
      rw [List.map_cons]
      by_cases hy : y = x
      · subst hy
        rw [List.erase_cons_head, List.erase_cons_head]
      · rw [List.erase_cons_tail (by simpa using fun e => hy (Int.ofNat.inj e)), List.erase_cons_tail (by simpa using hy), List.map_cons, ih]
  · rw [if_neg (fun h => hx (hm.mp h)), if_neg hx, List.map_append]; rfl
theorem sum_perm {l₁ l₂ : List Int} (h : l₁.Perm l₂) : l₁.sum = l₂.sum := by
  induction h with
  | nil => rfl
  | cons x _ ih => rw [List.sum_cons, List.sum_cons, ih]
  | swap x y l => simp only [List.sum_cons]; omega
  | trans _ _ ih1 ih2 => exact ih1.trans ih2
theorem powS_cast (ks : List Nat) : ((powS ks : Nat) : Int) = (ks.map fun (k : Nat) => (2 : Int) ^ k).sum := by
  induction ks with
  | nil => rfl
  | cons k r ih =>
    have e : powS (k :: r) = 2 ^ k + powS r := rfl
    rw [e, List.map_cons, List.sum_cons, ← ih, Int.natCast_add, cast_pow2]
theorem map_getD_range (ns : List Int) (f : Int → Int) : (List.range ns.length).map (fun (i : Nat) => f (ns.getD i 0)) = ns.map f := by
  refine List.ext_getElem (by simp) fun i h1 h2 => ?_
  simp only [List.getElem_map, List.getElem_range]
  rw [List.length_map] at h2
  rw [List.getD_eq_getElem?_getD, List.getElem?_eq_getElem h2]; rfl
theorem law_turn' {cc n : Nat} {xs : List Nat} {ns : List Int} (hx : ∀ x ∈ xs, x < 2 ^ cc) (hp : ns.Perm ((xs.map fun (x : Nat) => (x : Int)).foldl flipL [])) (hn : n = ns.length) :
    ((turnN cc (tableN cc xs) cc : Nat) : Int) = ((List.range n).map fun (i : Nat) => (2 : Int) ^ (ns.getD i 0).toNat).sum := by
  subst hn
  rw [map_getD_range ns (fun k => (2 : Int) ^ k.toNat), turn_pow hx, powS_cast]
  rw [keptL_eq] at hp
  rw [sum_perm (hp.map fun k => (2 : Int) ^ k.toNat), List.map_map]
  congr 1
end Mine
end
section
open PySem PySem.W PyProof.Rows
namespace Mine
/-! the ones of a table -/
def sumTo (n : Nat) (f : Nat → Nat) : Nat := ((List.range n).map f).sum
theorem sumTo_add (a b : Nat) (f : Nat → Nat) : sumTo (a + b) f = sumTo a f + sumTo b (fun p => f (a + p)) := by
  unfold sumTo
  rw [List.range_add, List.map_append, List.sum_append, List.map_map]; rfl
theorem sumTo_congr {n : Nat} {f g : Nat → Nat} (h : ∀ p, p < n → f p = g p) : sumTo n f = sumTo n g := by
  unfold sumTo
  rw [List.map_congr_left fun p hp => h p (List.mem_range.mp hp)]
theorem sumTo_le {n : Nat} {f : Nat → Nat} (h : ∀ p, p < n → f p ≤ 1) : sumTo n f ≤ n := by
  induction n with
  | zero => exact Nat.le_refl _
  | succ n ih =>
    rw [sumTo_add]
    have h1 := ih fun p hp => h p (by omega)
    have h2 : sumTo 1 (fun p => f (n + p)) = f n := by unfold sumTo; simp
    have h3 := h n (Nat.lt_succ_self _)
    omega
def pc (c T : Nat) : Nat := sumTo (2 ^ c) fun p => (T.testBit p).toNat
theorem two_pow_dbl (c : Nat) : 2 ^ (c + 1) = 2 ^ c + 2 ^ c := by rw [Nat.pow_succ]; omega
theorem pc_split (c lo hi : Nat) (hl : lo < 2 ^ (2 ^ c)) : pc (c + 1) (2 ^ (2 ^ c) * hi + lo) = pc c lo + pc c hi := by
  unfold pc
  rw [two_pow_dbl, sumTo_add]
  congr 1
  · exact sumTo_congr fun p hp => by rw [Nat.testBit_two_pow_mul_add _ hl, if_pos hp]
  · exact sumTo_congr fun p hp => by rw [Nat.testBit_two_pow_mul_add _ hl, if_neg (by omega), Nat.add_sub_cancel_left]
theorem pc_le (c T : Nat) : pc c T ≤ 2 ^ c := sumTo_le fun p _ => by cases T.testBit p <;> simp
/-- half of a mask's shifted and -/
theorem and_split {N a b m : Nat} (ha : a < 2 ^ N) (hm : m < 2 ^ N) : (2 ^ N * b + a) &&& (2 ^ N * m + m) = 2 ^ N * (b &&& m) + (a &&& m) := by
  refine Nat.eq_of_testBit_eq fun j => ?_
  have h1 : a &&& m < 2 ^ N := Nat.lt_of_le_of_lt Nat.and_le_left ha
  rw [Nat.testBit_and, Nat.testBit_two_pow_mul_add _ ha, Nat.testBit_two_pow_mul_add _ hm, Nat.testBit_two_pow_mul_add _ h1]
  split
  · rw [Nat.testBit_and]
  · rw [Nat.testBit_and]
theorem shift_split {c k a b : Nat} (hk : k < c) (ha : a < 2 ^ (2 ^ c)) :
    ((2 ^ (2 ^ c) * b + a) / 2 ^ (2 ^ k)) &&& (2 ^ (2 ^ c) * maskN c k + maskN c k) = 2 ^ (2 ^ c) * ((b / 2 ^ (2 ^ k)) &&& maskN c k) + ((a / 2 ^ (2 ^ k)) &&& maskN c k) := by
  refine Nat.eq_of_testBit_eq fun j => ?_
  have hm := mask_lt c k
  have hp := Nat.two_pow_pos k
  have h1 : (a / 2 ^ (2 ^ k)) &&& maskN c k < 2 ^ (2 ^ c) := Nat.lt_of_le_of_lt Nat.and_le_right hm
  rw [Nat.testBit_and, Nat.testBit_two_pow_mul_add _ hm, Nat.testBit_two_pow_mul_add _ h1, Nat.testBit_div_two_pow, Nat.testBit_two_pow_mul_add _ ha]
  by_cases hj : j < 2 ^ c
  · rw [if_pos hj, if_pos hj, Nat.testBit_and, mask_bit c hk, Nat.testBit_div_two_pow, decide_eq_true hj, Bool.true_and]
    cases hb : j.testBit k with
    | true => simp
    | false =>
      have h2 : j + 2 ^ k < 2 ^ c := by
        have h6 : j ||| 2 ^ k < 2 ^ c := Nat.or_lt_two_pow hj (Nat.pow_lt_pow_right (by decide) hk)
        have h7 : j &&& 2 ^ k = 0 := by
          refine Nat.eq_of_testBit_eq fun i => ?_
          rw [Nat.testBit_and, Nat.testBit_two_pow, Nat.zero_testBit]
          by_cases hi : k = i
          · subst hi; rw [hb]; rfl
          · simp [hi]
        have h8 := nat_or_add_and j (2 ^ k)
        rw [h7] at h8
        omega
      rw [if_pos h2]
  · rw [if_neg hj, if_neg hj, Nat.testBit_and, Nat.testBit_div_two_pow, if_neg (by omega)]
    congr 2
    omega
theorem ones_bound {c T : Nat} (hT : T < 2 ^ (2 ^ c)) : ∀ i, i < c → onesN c T i < 2 ^ (2 ^ c)
  | 0, _ => Nat.lt_of_le_of_lt (Nat.sub_le _ _) hT
  | i + 1, h => by
    have h1 : onesN c T i &&& maskN c (1 + i) ≤ maskN c (1 + i) := Nat.and_le_right
    have h2 : onesN c T i / 2 ^ (2 ^ (1 + i)) &&& maskN c (1 + i) ≤ maskN c (1 + i) := Nat.and_le_right
    show (onesN c T i &&& maskN c (1 + i)) + (onesN c T i / 2 ^ (2 ^ (1 + i)) &&& maskN c (1 + i)) < _
    have h3 : maskN c (1 + i) * (2 ^ (2 ^ (1 + i)) + 1) ≤ fullN c := Nat.div_mul_le_self _ _
    have h4 := fullN_lt c
    have h5 := Nat.two_pow_pos (2 ^ (1 + i))
    have h6 : maskN c (1 + i) * 2 ≤ maskN c (1 + i) * (2 ^ (2 ^ (1 + i)) + 1) := Nat.mul_le_mul_left _ (by omega)
    omega
theorem ones_split {c lo hi : Nat} (hl : lo < 2 ^ (2 ^ c)) (hh : hi < 2 ^ (2 ^ c)) : ∀ i, i < c → onesN (c + 1) (2 ^ (2 ^ c) * hi + lo) i = 2 ^ (2 ^ c) * onesN c hi i + onesN c lo i
  | 0, h => by
    have h1 := shift_split (b := hi) h hl
    show (2 ^ (2 ^ c) * hi + lo) - ((2 ^ (2 ^ c) * hi + lo) / 2 ^ 1 &&& maskN (c + 1) 0) = 2 ^ (2 ^ c) * (hi - (hi / 2 ^ 1 &&& maskN c 0)) + (lo - (lo / 2 ^ 1 &&& maskN c 0))
    rw [mask_succ h]
    rw [show (2 : Nat) ^ (2 ^ 0) = 2 ^ 1 from rfl] at h1
    rw [h1]
    have h2 : hi / 2 ^ 1 &&& maskN c 0 ≤ hi := Nat.le_trans Nat.and_le_left (Nat.div_le_self _ _)
    have h3 : lo / 2 ^ 1 &&& maskN c 0 ≤ lo := Nat.le_trans Nat.and_le_left (Nat.div_le_self _ _)
    generalize hi / 2 ^ 1 &&& maskN c 0 = u at h2 ⊢
    generalize lo / 2 ^ 1 &&& maskN c 0 = v at h3 ⊢
    rw [Nat.mul_sub]
    have h4 : 2 ^ (2 ^ c) * u ≤ 2 ^ (2 ^ c) * hi := Nat.mul_le_mul_left _ h2
    omega
  | i + 1, h => by
    have ih := ones_split hl hh i (by omega)
    have hb := ones_bound hl i (by omega)
    have hk : 1 + i < c := by omega
    show (onesN (c + 1) (2 ^ (2 ^ c) * hi + lo) i &&& maskN (c + 1) (1 + i)) + (onesN (c + 1) (2 ^ (2 ^ c) * hi + lo) i / 2 ^ (2 ^ (1 + i)) &&& maskN (c + 1) (1 + i)) =
      2 ^ (2 ^ c) * ((onesN c hi i &&& maskN c (1 + i)) + (onesN c hi i / 2 ^ (2 ^ (1 + i)) &&& maskN c (1 + i))) + ((onesN c lo i &&& maskN c (1 + i)) + (onesN c lo i / 2 ^ (2 ^ (1 + i)) &&& maskN c (1 + i)))
    rw [ih, mask_succ hk, and_split hb (mask_lt _ _), shift_split hk hb, Nat.mul_add]
    omega
theorem split_T (c T : Nat) : T = 2 ^ (2 ^ c) * (T / 2 ^ (2 ^ c)) + T % 2 ^ (2 ^ c) := (Nat.div_add_mod _ _).symm
theorem hi_lt {c T : Nat} (hT : T < 2 ^ (2 ^ (c + 1))) : T / 2 ^ (2 ^ c) < 2 ^ (2 ^ c) := by
  refine Nat.div_lt_of_lt_mul ?_
  rw [← Nat.pow_add, ← two_pow_dbl]; exact hT
theorem and_mask_self {k x : Nat} (b : Nat) (hx : x < 2 ^ (2 ^ k)) : (2 ^ (2 ^ k) * b + x) &&& maskN (k + 1) k = x := by
  rw [mask_self, Nat.and_two_pow_sub_one_eq_mod, Nat.mul_add_mod, Nat.mod_eq_of_lt hx]
theorem ones_pc : ∀ (c T : Nat), T < 2 ^ (2 ^ (c + 1)) → onesN (c + 1) T c = pc (c + 1) T
  | 0, T, hT => by
    have h : ∀ T : Fin 4, onesN 1 T.val 0 = pc 1 T.val := by decide +kernel
    exact h ⟨T, hT⟩
  | c + 1, T, hT => by
    have hl : T % 2 ^ (2 ^ (c + 1)) < 2 ^ (2 ^ (c + 1)) := Nat.mod_lt _ (Nat.two_pow_pos _)
    have hh := hi_lt hT
    have e := split_T (c + 1) T
    generalize T % 2 ^ (2 ^ (c + 1)) = lo at hl e
    generalize T / 2 ^ (2 ^ (c + 1)) = hi at hh e
    subst e
    have h1 := ones_split hl hh c (by omega)
    have i1 := ones_pc c lo hl
    have i2 := ones_pc c hi hh
    have b1 : pc (c + 1) lo < 2 ^ (2 ^ (c + 1)) := Nat.lt_of_le_of_lt (pc_le _ _) Nat.lt_two_pow_self
    have b2 : pc (c + 1) hi < 2 ^ (2 ^ (c + 1)) := Nat.lt_of_le_of_lt (pc_le _ _) Nat.lt_two_pow_self
    rw [pc_split _ _ _ hl]
    show (onesN (c + 1 + 1) (2 ^ (2 ^ (c + 1)) * hi + lo) c &&& maskN (c + 1 + 1) (1 + c)) + (onesN (c + 1 + 1) (2 ^ (2 ^ (c + 1)) * hi + lo) c / 2 ^ (2 ^ (1 + c)) &&& maskN (c + 1 + 1) (1 + c)) = _
    rw [Nat.add_comm 1 c, h1, i1, i2, and_mask_self _ b1, Nat.add_comm (2 ^ (2 ^ (c + 1)) * pc (c + 1) hi), Nat.add_mul_div_left _ _ (Nat.two_pow_pos _), Nat.div_eq_of_lt b1, Nat.zero_add]
    have := and_mask_self (k := c + 1) 0 b2
    rw [Nat.mul_zero, Nat.zero_add] at this
    rw [this]
theorem ones_mod : ∀ (d T : Nat), T < 2 ^ (2 ^ (4 + d)) → onesN (4 + d) T 3 % 65535 = pc (4 + d) T % 65535
  | 0, T, hT => by rw [ones_pc 3 T hT]
  | d + 1, T, hT => by
    have hl : T % 2 ^ (2 ^ (4 + d)) < 2 ^ (2 ^ (4 + d)) := Nat.mod_lt _ (Nat.two_pow_pos _)
    have hh := hi_lt (c := 4 + d) hT
    have e := split_T (4 + d) T
    generalize T % 2 ^ (2 ^ (4 + d)) = lo at hl e
    generalize T / 2 ^ (2 ^ (4 + d)) = hi at hh e
    subst e
    have h1 := ones_split hl hh 3 (by omega)
    have i1 := ones_mod d lo hl
    have i2 := ones_mod d hi hh
    have h2 : 2 ^ (2 ^ (4 + d)) % 65535 = 1 := by
      rw [Nat.pow_add, show (2 : Nat) ^ 4 = 16 from rfl, Nat.pow_mul, Nat.pow_mod, show (2 : Nat) ^ 16 % 65535 = 1 from rfl, Nat.one_pow]
    show onesN (4 + d + 1) (2 ^ (2 ^ (4 + d)) * hi + lo) 3 % 65535 = pc (4 + d + 1) (2 ^ (2 ^ (4 + d)) * hi + lo) % 65535
    rw [h1, pc_split _ _ _ hl, Nat.add_mod, Nat.mul_mod, h2, Nat.one_mul, Nat.mod_mod, i1, i2, ← Nat.add_mod, Nat.add_comm]
theorem onesR_pc {c T : Nat} (h1 : 1 ≤ c) (h13 : c ≤ 13) (hT : T < 2 ^ (2 ^ c)) : onesR c T = pc c T := by
  unfold onesR
  split
  · obtain ⟨d, rfl⟩ : ∃ d, c = d + 1 := ⟨c - 1, by omega⟩
    exact ones_pc d T hT
  · obtain ⟨d, rfl⟩ : ∃ d, c = 4 + d := ⟨c - 4, by omega⟩
    rw [ones_mod d T hT, Nat.mod_eq_of_lt]
    have := pc_le (4 + d) T
    have := size_le h13
    omega
end Mine
end
section
open PySem PySem.W PyProof.Rows
namespace Mine
/-! the ones by inclusion and exclusion -/
theorem bor_nat (a b : Nat) : Builtin.bitOr (a : Int) (b : Int) = ((a ||| b : Nat) : Int) := by
  rw [bitOr_and, band_nat]
  have h := nat_or_add_and a b
  omega
def termsM (xs : List Nat) : List (Int × Nat) :=
  xs.foldl (fun (ts : List (Int × Nat)) (one : Nat) => ts ++ [(1, one)] ++ ts.map (fun q => (-2 * q.1, q.2 ||| one))) []
theorem termsM_snoc (xs : List Nat) (x : Nat) : termsM (xs ++ [x]) = termsM xs ++ [(1, x)] ++ (termsM xs).map (fun q => (-2 * q.1, q.2 ||| x)) := by
  unfold termsM; rw [List.foldl_append]; rfl
theorem termsN_M (xs : List Nat) : termsN xs = (termsM xs).map fun q => (q.1, (q.2 : Int)) := by
  refine snoc_ind (P := fun xs => termsN xs = (termsM xs).map fun q => (q.1, (q.2 : Int))) rfl (fun xs x ih => ?_) xs
  rw [termsN_snoc, termsM_snoc, ih, List.map_append, List.map_append, List.map_map, List.map_map]
  congr 1
  refine List.map_congr_left fun q _ => ?_
  show (-2 * q.1, Builtin.bitOr (q.2 : Int) (x : Int)) = (-2 * q.1, ((q.2 ||| x : Nat) : Int))
  rw [bor_nat]
theorem sub_step (k h p : Nat) : sub (k + 1) h p = (sub k h p && (!h.testBit k || p.testBit k)) := by
  unfold sub
  rw [Bool.eq_iff_iff]
  simp only [decide_eq_true_eq, Bool.and_eq_true, Bool.or_eq_true, Bool.not_eq_true']
  constructor
  · intro hs
    refine ⟨fun j hj => hs j (by omega), ?_⟩
    cases ho : h.testBit k with
    | false => exact .inl rfl
    | true => exact .inr (hs k (by omega) ho)
  · rintro ⟨h1, h2⟩ j hj ho
    rcases Nat.lt_or_ge j k with h3 | h3
    · exact h1 j h3 ho
    · have : j = k := by omega
      subst this
      rcases h2 with h2 | h2
      · rw [ho] at h2; cases h2
      · exact h2
theorem sub_or (c h x p : Nat) : sub c (h ||| x) p = (sub c h p && sub c x p) := by
  unfold sub
  rw [Bool.eq_iff_iff]
  simp only [decide_eq_true_eq, Bool.and_eq_true, Nat.testBit_or, Bool.or_eq_true]
  exact ⟨fun hs => ⟨fun j hj h1 => hs j hj (.inl h1), fun j hj h1 => hs j hj (.inr h1)⟩, fun ⟨h1, h2⟩ j hj h3 => h3.elim (h1 j hj) (h2 j hj)⟩
theorem sub_add {c h p : Nat} : ∀ k, k ≤ c → sub k h (2 ^ c + p) = sub k h p
  | 0, _ => by unfold sub; simp
  | k + 1, hk => by rw [sub_step, sub_step, sub_add k (by omega), bit_add (by omega)]
def popN (c h : Nat) : Nat := sumTo c fun k => (h.testBit k).toNat
theorem popN_succ (c h : Nat) : popN (c + 1) h = popN c h + (h.testBit c).toNat := by
  unfold popN
  rw [sumTo_add]
  have e : sumTo 1 (fun p => (h.testBit (c + p)).toNat) = (h.testBit c).toNat := by unfold sumTo; simp
  rw [e]
theorem popN_le (c h : Nat) : popN c h ≤ c := sumTo_le fun k _ => by cases h.testBit k <;> simp
theorem sumTo_two (n : Nat) (f : Nat → Nat) : sumTo n f + sumTo n f = 2 * sumTo n f := by omega
theorem sumTo_zero {n : Nat} {f : Nat → Nat} (h : ∀ p, p < n → f p = 0) : sumTo n f = 0 := by
  rw [sumTo_congr h]
  unfold sumTo
  induction n with
  | zero => rfl
  | succ n ih => rw [List.range_succ, List.map_append, List.sum_append, ih fun p hp => h p (by omega)]; rfl
theorem cnt_sub : ∀ (c h : Nat), sumTo (2 ^ c) (fun p => (sub c h p).toNat) = 2 ^ (c - popN c h)
  | 0, h => by
    have e : ∀ p, sub 0 h p = true := fun p => by unfold sub; simp
    unfold sumTo
    simp [e]
  | c + 1, h => by
    have ih := cnt_sub c h
    have hle := popN_le c h
    rw [two_pow_dbl, sumTo_add, popN_succ]
    have e1 : sumTo (2 ^ c) (fun p => (sub (c + 1) h (2 ^ c + p)).toNat) = 2 ^ (c - popN c h) := by
      rw [← ih]
      refine sumTo_congr fun p hp => ?_
      rw [sub_step, sub_add c (Nat.le_refl _)]
      have : (2 ^ c + p).testBit c = true := by
        rw [Nat.testBit_eq_decide_div_mod_eq, Nat.add_div_left _ (Nat.two_pow_pos c), Nat.div_eq_of_lt hp]; rfl
      rw [this]; simp
    rw [e1]
    cases hb : h.testBit c with
    | true =>
      have e0 : sumTo (2 ^ c) (fun p => (sub (c + 1) h p).toNat) = 0 := sumTo_zero fun p hp => by
        rw [sub_step, hb, Nat.testBit_lt_two_pow hp]; simp
      rw [e0, Nat.zero_add]
      congr 1
      show c - popN c h = c + 1 - (popN c h + 1)
      omega
    | false =>
      have e0 : sumTo (2 ^ c) (fun p => (sub (c + 1) h p).toNat) = 2 ^ (c - popN c h) := by
        rw [← ih]
        exact sumTo_congr fun p hp => by rw [sub_step, hb]; simp
      rw [e0]
      show _ = 2 ^ (c + 1 - (popN c h + 0))
      rw [show c + 1 - (popN c h + 0) = (c - popN c h) + 1 by omega, two_pow_dbl]
/-! whole sums -/
def isum (n : Nat) (f : Nat → Int) : Int := ((List.range n).map f).sum
theorem isum_succ (n : Nat) (f : Nat → Int) : isum (n + 1) f = isum n f + f n := by
  unfold isum; rw [List.range_succ, List.map_append, List.sum_append]; simp
theorem isum_add (n : Nat) (f g : Nat → Int) : isum n (fun p => f p + g p) = isum n f + isum n g := by
  induction n with
  | zero => rfl
  | succ n ih => rw [isum_succ, isum_succ, isum_succ, ih]; omega
theorem isum_mul (n : Nat) (m : Int) (f : Nat → Int) : isum n (fun p => m * f p) = m * isum n f := by
  induction n with
  | zero => exact (Int.mul_zero m).symm
  | succ n ih => rw [isum_succ, isum_succ, ih, Int.mul_add]
theorem isum_zero (n : Nat) : isum n (fun _ => 0) = 0 := by
  induction n with
  | zero => rfl
  | succ n ih => rw [isum_succ, ih]; rfl
theorem isum_congr {n : Nat} {f g : Nat → Int} (h : ∀ p, p < n → f p = g p) : isum n f = isum n g := by
  unfold isum
  rw [List.map_congr_left fun p hp => h p (List.mem_range.mp hp)]
theorem isum_cast (n : Nat) (f : Nat → Nat) : isum n (fun p => ((f p : Nat) : Int)) = ((sumTo n f : Nat) : Int) := by
  induction n with
  | zero => rfl
  | succ n ih =>
    have e : sumTo 1 (fun p => f (n + p)) = f n := by unfold sumTo; simp
    rw [isum_succ, ih, sumTo_add, Int.natCast_add, e]
def b2i (b : Bool) : Int := if b = true then 1 else 0
theorem b2i_nat (b : Bool) : b2i b = ((b.toNat : Nat) : Int) := by cases b <;> rfl
def ev (c p : Nat) (ts : List (Int × Nat)) : Int := (ts.map fun q => q.1 * b2i (sub c q.2 p)).sum
theorem ev_append (c p : Nat) (a b : List (Int × Nat)) : ev c p (a ++ b) = ev c p a + ev c p b := by
  unfold ev; rw [List.map_append, List.sum_append]
theorem ev_or (c p x : Nat) (ts : List (Int × Nat)) : ev c p (ts.map fun q => (-2 * q.1, q.2 ||| x)) = -2 * b2i (sub c x p) * ev c p ts := by
  induction ts with
  | nil => exact (Int.mul_zero _).symm
  | cons q r ih =>
    have e1 : ev c p ((q :: r).map fun q => (-2 * q.1, q.2 ||| x)) = -2 * q.1 * b2i (sub c (q.2 ||| x) p) + ev c p (r.map fun q => (-2 * q.1, q.2 ||| x)) := rfl
    have e2 : ev c p (q :: r) = q.1 * b2i (sub c q.2 p) + ev c p r := rfl
    rw [e1, e2, ih, sub_or, Int.mul_add]
    congr 1
    cases sub c q.2 p <;> cases sub c x p <;> simp [b2i]
theorem ev_terms (c p : Nat) (xs : List Nat) : ev c p (termsM xs) = b2i (par (fun x => sub c x p) xs) := by
  refine snoc_ind (P := fun xs => ev c p (termsM xs) = b2i (par (fun x => sub c x p) xs)) rfl (fun xs x ih => ?_) xs
  rw [termsM_snoc, ev_append, ev_append, ev_or, ih, par_snoc]
  have e : ev c p [(1, x)] = b2i (sub c x p) := by unfold ev; simp
  rw [e]
  cases par (fun x => sub c x p) xs <;> cases sub c x p <;> rfl
theorem sum_ev (c : Nat) (ts : List (Int × Nat)) : isum (2 ^ c) (fun p => ev c p ts) = (ts.map fun q => q.1 * ((2 ^ (c - popN c q.2) : Nat) : Int)).sum := by
  induction ts with
  | nil => exact isum_zero _
  | cons q r ih =>
    have e : isum (2 ^ c) (fun p => ev c p (q :: r)) = isum (2 ^ c) (fun p => q.1 * b2i (sub c q.2 p) + ev c p r) := rfl
    rw [e, isum_add, isum_mul, ih, List.map_cons, List.sum_cons]
    congr 2
    rw [← cnt_sub, ← isum_cast]
    exact isum_congr fun p _ => b2i_nat _
theorem popI_N (c h : Nat) : popI c (h : Int) = ((popN c h : Nat) : Int) := by
  unfold popI popN
  rw [← isum_cast]
  unfold isum
  refine congrArg List.sum (List.map_congr_left fun k _ => ?_)
  rw [tn_zero, bit_ask]
  cases h.testBit k <;> rfl
theorem due_M (c : Nat) (xs : List Nat) : dueI c (termsN xs) = ((termsM xs).map fun q => q.1 * ((2 ^ (c - popN c q.2) : Nat) : Int)).sum := by
  unfold dueI
  rw [termsN_M, List.map_map]
  refine congrArg List.sum (List.map_congr_left fun q _ => ?_)
  show q.1 * 2 ^ ((c : Int) - popI c (q.2 : Int)).toNat = _
  rw [popI_N, show ((c : Int) - ((popN c q.2 : Nat) : Int)).toNat = c - popN c q.2 by have := popN_le c q.2; omega, cast_pow2]
theorem table_lt (c : Nat) (xs : List Nat) : tableN c xs < 2 ^ (2 ^ c) := by
  refine Nat.lt_of_not_le fun h => ?_
  obtain ⟨i, hi, hb⟩ := Nat.exists_ge_and_testBit_of_ge_two_pow h
  rw [table_bit] at hb
  have e : par (fun x => decide (i < 2 ^ c) && sub c x i) xs = par (fun _ => false) xs := par_congr fun x _ => by rw [decide_eq_false (by omega)]; rfl
  rw [e] at hb
  have : par (fun (_ : Nat) => false) xs = false := snoc_ind (P := fun xs => par (fun (_ : Nat) => false) xs = false) rfl (fun xs x ih => by rw [par_snoc, ih]; rfl) xs
  rw [this] at hb; cases hb
theorem law_ones {cc : Nat} {xs : List Nat} (h1 : 1 ≤ cc) (h13 : cc ≤ 13) : ((onesR cc (tableN cc xs) : Nat) : Int) = dueI cc (termsN xs) := by
  rw [onesR_pc h1 h13 (table_lt cc xs), due_M, ← sum_ev]
  unfold pc
  rw [← isum_cast]
  refine isum_congr fun p hp => ?_
  rw [ev_terms, table_bit, ← b2i_nat]
  congr 1
  exact par_congr fun x _ => by rw [decide_eq_true hp, Bool.true_and]
end Mine
end
section
open PySem PySem.W PyProof.Rows
namespace Mine
/-! one round of putting slots in order -/
def toldN (w L W : Nat) : Nat := ((((W / 2 ^ w) &&& (L * 2 ^ (w - 1) - L)) + L * 2 ^ (w - 1)) - (W &&& (L * 2 ^ (w - 1) - L))) &&& (L * 2 ^ (w - 1))
def changeN (w L W : Nat) : Nat := ((W &&& (L * 2 ^ (w - 1) - L)) ^^^ ((W / 2 ^ w) &&& (L * 2 ^ (w - 1) - L))) &&& (toldN w L W - toldN w L W / 2 ^ (w - 1))
def stepW (w L W : Nat) : Nat := W ^^^ (changeN w L W ^^^ (changeN w L W * 2 ^ w))
def lowN (m w par : Nat) : Nat := if par = 0 then everyN (m / 2) (2 * w) else everyN ((m - 1) / 2) (2 * w) * 2 ^ w
def runN (m w W : Nat) : Nat → Nat
  | 0 => W
  | i + 1 => stepW w (lowN m w (i % 2)) (runN m w W i)
structure InPre (m ww W : Nat) (common : Int) : Prop where
  m5 : 5 ≤ m
  m8 : m ≤ 8
  w9 : 9 ≤ ww
  wl : ww ≤ 1208
  lo : 2 ^ (m * ww) ≤ common
  hi : common < 2 ^ 20000
theorem every_lt {s : Nat} (m : Nat) : everyN m s < 2 ^ (m * s) := by
  have := Nat.two_pow_pos (m * s)
  have h : everyN m s ≤ 2 ^ (m * s) - 1 := Nat.div_le_self _ _
  omega
theorem low_lt {m w : Nat} (h1 : 1 ≤ m) (par : Nat) : lowN m w par < 2 ^ (m * w) := by
  unfold lowN
  split
  · refine Nat.lt_of_lt_of_le (every_lt _) (Nat.pow_le_pow_right (by decide) ?_)
    rw [← Nat.mul_assoc]
    exact Nat.mul_le_mul_right _ (by omega)
  · have h2 : everyN ((m - 1) / 2) (2 * w) * 2 ^ w < 2 ^ ((m - 1) / 2 * (2 * w)) * 2 ^ w := Nat.mul_lt_mul_of_pos_right (every_lt _) (Nat.two_pow_pos w)
    refine Nat.lt_of_lt_of_le h2 ?_
    rw [← Nat.pow_add]
    refine Nat.pow_le_pow_right (by decide) ?_
    have e : (m - 1) / 2 * (2 * w) + w = ((m - 1) / 2 * 2 + 1) * w := by rw [Nat.add_mul, Nat.one_mul, Nat.mul_assoc]
    rw [e]
    exact Nat.mul_le_mul_right _ (by omega)
section
variable {mm ww W : Nat} {common : Int}
theorem InPre.mw (H : InPre mm ww W common) : mm * ww ≤ 9664 := Nat.le_trans (Nat.mul_le_mul H.m8 H.wl) (by decide)
theorem od_f0 : ((mm : Int).fdiv 2).toNat = mm / 2 := by
  rw [Int.fdiv_eq_ediv_of_nonneg _ (by decide)]; omega
theorem od_f1 (h : 1 ≤ mm) : (((mm : Int) - 1).fdiv 2).toNat = (mm - 1) / 2 := by
  rw [Int.fdiv_eq_ediv_of_nonneg _ (by decide)]; omega
theorem od_w : (2 * (ww : Int)).toNat = 2 * ww := by omega
theorem InPre.e0 (H : InPre mm ww W common) : 0 ≤ (mm : Int).fdiv 2 ∧ 0 ≤ 2 * (ww : Int) ∧ EvPre ((mm : Int).fdiv 2).toNat (2 * (ww : Int)).toNat common := by
  refine ⟨by rw [Int.fdiv_eq_ediv_of_nonneg _ (by decide)]; omega, by omega, ?_⟩
  rw [od_f0, od_w]
  have h1 := H.w9
  have h2 := H.wl
  have h3 := H.m8
  refine ⟨by omega, by omega, by omega, Int.le_trans (pow2_le ?_) H.lo, H.hi⟩
  rw [← Nat.mul_assoc]
  exact Nat.mul_le_mul_right _ (by omega)
theorem InPre.e1 (H : InPre mm ww W common) : 0 ≤ ((mm : Int) - 1).fdiv 2 ∧ 0 ≤ 2 * (ww : Int) ∧ EvPre (((mm : Int) - 1).fdiv 2).toNat (2 * (ww : Int)).toNat common := by
  have h1 := H.w9
  have h2 := H.wl
  have h3 := H.m8
  have h4 := H.m5
  refine ⟨by rw [Int.fdiv_eq_ediv_of_nonneg _ (by decide)]; omega, by omega, ?_⟩
  rw [od_f1 (by omega), od_w]
  refine ⟨by omega, by omega, by omega, Int.le_trans (pow2_le ?_) H.lo, H.hi⟩
  rw [← Nat.mul_assoc]
  exact Nat.mul_le_mul_right _ (by omega)
theorem sm_any {x n : Nat} (h : x < 2 ^ n) (hn : n ≤ 30000) : Sm (x : Int) := sm_nat h (by omega)
theorem InPre.s1 (H : InPre mm ww W common) : 0 ≤ (ww : Int) ∧ (ww : Int) ≤ 100000 ∧ Sm ((everyN (((mm : Int) - 1).fdiv 2).toNat (2 * (ww : Int)).toNat : Nat) : Int) := by
  have h1 := H.w9
  have h2 := H.wl
  have h3 := H.m8
  have h4 := H.m5
  refine ⟨by omega, by omega, ?_⟩
  rw [od_f1 (by omega), od_w]
  refine sm_any (every_lt _) (Nat.le_trans (Nat.mul_le_mul (show (mm - 1) / 2 ≤ 4 by omega) (show 2 * ww ≤ 2416 by omega)) (by decide))
theorem InPre.s2 (H : InPre mm ww W common) : Sm 2 ∧ Sm (ww : Int) := by
  have h2 := H.wl
  exact ⟨sm_of_lt (n := 2) (by decide) (by decide), sm_any (n := 11) (by rw [show (2 : Nat) ^ 11 = 2048 by decide]; omega) (by decide)⟩
theorem py2 (a : Int) : (2 : Int) ≠ 0 ∧ Builtin.divisionGoesByPylong a 2 = false := ⟨by decide, pylong_small (by decide +kernel)⟩
theorem low_at (H : InPre mm ww W common) (i : Nat) :
    [((everyN ((mm : Int).fdiv 2).toNat (2 * (ww : Int)).toNat : Nat) : Int), ((everyN (((mm : Int) - 1).fdiv 2).toNat (2 * (ww : Int)).toNat : Nat) : Int) * 2 ^ ((ww : Nat) : Int).toNat].getD (((0 : Int) + (i : Int)).fmod 2).toNat 0 = ((lowN mm ww (i % 2) : Nat) : Int) := by
  have h4 := H.m5
  rw [od_f0, od_f1 (by omega), od_w, Int.toNat_natCast, fmod_pos (by decide)]
  unfold lowN
  rcases Nat.mod_two_eq_zero_or_one i with h | h
  · rw [h, show (((0 : Int) + (i : Int)) % 2).toNat = 0 by omega, if_pos rfl]; rfl
  · rw [h, show (((0 : Int) + (i : Int)) % 2).toNat = 1 by omega, if_neg (by decide), Int.natCast_mul, cast_pow2]; rfl
theorem item2 (i : Nat) (a b : Int) : 0 ≤ ((0 : Int) + (i : Int)).fmod 2 ∧ (((0 : Int) + (i : Int)).fmod 2).toNat < [a, b].length := by
  rw [fmod_pos (by decide)]
  show _ ∧ _ < 2
  omega
theorem item2' (i : Nat) : ((0 : Int) + (i : Int)).fmod 2 < 2 ^ 63 := by
  rw [fmod_pos (by decide), show (2 : Int) ^ 63 = 9223372036854775808 by decide]
  omega
/-- the change of a round, as the program makes it -/
theorem change_cast {v Lz : Int} {l V : Nat} (hw : 1 ≤ ww) (hv : v = (V : Int)) (hL : Lz = (l : Int)) :
    Builtin.bitAnd (Builtin.bitXor (Builtin.bitAnd v (Lz * 2 ^ ((ww : Int) - 1).toNat - Lz)) (Builtin.bitAnd (v.fdiv (2 ^ ((ww : Nat) : Int).toNat)) (Lz * 2 ^ ((ww : Int) - 1).toNat - Lz)))
      (Builtin.bitAnd (Builtin.bitAnd (v.fdiv (2 ^ ((ww : Nat) : Int).toNat)) (Lz * 2 ^ ((ww : Int) - 1).toNat - Lz) + Lz * 2 ^ ((ww : Int) - 1).toNat - Builtin.bitAnd v (Lz * 2 ^ ((ww : Int) - 1).toNat - Lz)) (Lz * 2 ^ ((ww : Int) - 1).toNat) -
        (Builtin.bitAnd (Builtin.bitAnd (v.fdiv (2 ^ ((ww : Nat) : Int).toNat)) (Lz * 2 ^ ((ww : Int) - 1).toNat - Lz) + Lz * 2 ^ ((ww : Int) - 1).toNat - Builtin.bitAnd v (Lz * 2 ^ ((ww : Int) - 1).toNat - Lz)) (Lz * 2 ^ ((ww : Int) - 1).toNat)).fdiv (2 ^ ((ww : Int) - 1).toNat)) = ((changeN ww l V : Nat) : Int) := by
  have e1 : ((ww : Int) - 1).toNat = ww - 1 := by omega
  rw [e1, Int.toNat_natCast, hv, hL, mul_pow_nat, fdiv_pow_nat]
  have h1 : l ≤ l * 2 ^ (ww - 1) := Nat.le_mul_of_pos_right _ (Nat.two_pow_pos _)
  have h2 : ((l * 2 ^ (ww - 1) : Nat) : Int) - (l : Int) = ((l * 2 ^ (ww - 1) - l : Nat) : Int) := by omega
  rw [h2, band_nat, band_nat, bxor_nat]
  have h3 : V &&& (l * 2 ^ (ww - 1) - l) ≤ l * 2 ^ (ww - 1) := Nat.le_trans Nat.and_le_right (Nat.sub_le _ _)
  have h4 : (((V / 2 ^ ww &&& (l * 2 ^ (ww - 1) - l) : Nat)) : Int) + ((l * 2 ^ (ww - 1) : Nat) : Int) - ((V &&& (l * 2 ^ (ww - 1) - l) : Nat) : Int) =
      (((V / 2 ^ ww &&& (l * 2 ^ (ww - 1) - l)) + l * 2 ^ (ww - 1) - (V &&& (l * 2 ^ (ww - 1) - l)) : Nat) : Int) := by omega
  rw [h4, band_nat, fdiv_pow_nat]
  have h5 : toldN ww l V / 2 ^ (ww - 1) ≤ toldN ww l V := Nat.div_le_self _ _
  have h6 : ((toldN ww l V : Nat) : Int) - ((toldN ww l V / 2 ^ (ww - 1) : Nat) : Int) = ((toldN ww l V - toldN ww l V / 2 ^ (ww - 1) : Nat) : Int) := by omega
  show Builtin.bitAnd _ (((toldN ww l V : Nat) : Int) - ((toldN ww l V / 2 ^ (ww - 1) : Nat) : Int)) = _
  rw [h6, band_nat]; rfl
theorem change_lt (H : InPre mm ww W common) (i V : Nat) : changeN ww (lowN mm ww (i % 2)) V < 2 ^ 11000 := by
  have h1 : changeN ww (lowN mm ww (i % 2)) V ≤ lowN mm ww (i % 2) * 2 ^ (ww - 1) := Nat.le_trans Nat.and_le_right (Nat.le_trans (Nat.sub_le _ _) Nat.and_le_right)
  have h2 : lowN mm ww (i % 2) * 2 ^ (ww - 1) < 2 ^ (mm * ww) * 2 ^ (ww - 1) := Nat.mul_lt_mul_of_pos_right (low_lt (by have := H.m5; omega) _) (Nat.two_pow_pos _)
  have h3 : 2 ^ (mm * ww) * 2 ^ (ww - 1) ≤ 2 ^ 11000 := by
    rw [← Nat.pow_add]
    exact Nat.pow_le_pow_right (by decide) (by have := H.mw; have := H.wl; omega)
  exact Nat.lt_of_le_of_lt h1 (Nat.lt_of_lt_of_le h2 h3)
theorem ord_ob {x : Int} {i V : Nat} (H : InPre mm ww W common) (hx : x = ((changeN ww (lowN mm ww (i % 2)) V : Nat) : Int)) : 0 ≤ (ww : Int) ∧ (ww : Int) ≤ 100000 ∧ Sm x := by
  have h2 := H.wl
  rw [hx]
  exact ⟨by omega, by omega, sm_any (change_lt H i V) (by decide)⟩
theorem ord_ob2 (H : InPre mm ww W common) {x : Int} {i : Nat} (hx : x = ((lowN mm ww (i % 2) : Nat) : Int)) : 0 ≤ (ww : Int) - 1 ∧ (ww : Int) - 1 ≤ 100000 ∧ Sm x := by
  have h1 := H.w9
  have h2 := H.wl
  rw [hx]
  exact ⟨by omega, by omega, sm_any (low_lt (by have := H.m5; omega) _) (by have := H.mw; omega)⟩
theorem ord_step {v x : Int} {i : Nat} (hv : v = ((runN mm ww W i : Nat) : Int)) (hx : x = ((changeN ww (lowN mm ww (i % 2)) (runN mm ww W i) : Nat) : Int)) :
    Builtin.bitXor v (Builtin.bitXor x (x * 2 ^ ((ww : Nat) : Int).toNat)) = ((runN mm ww W (i + 1) : Nat) : Int) := by
  rw [hx, hv, Int.toNat_natCast, mul_pow_nat, bxor_nat, bxor_nat]; rfl
end
end Mine
end
section
open PySem PySem.W PyProof.Rows
set_option maxRecDepth 100000
namespace Mine
local macro_rules | `(tactic| walk_at "binaryOp LShift int int") => `(tactic| (k_here; with_reducible refine r_lsh ?_ ?_))
local macro_rules | `(tactic| walk_at "inplaceOp LShift int int") => `(tactic| (k_here; with_reducible refine r_ilsh ?_ ?_))
local macro_rules | `(tactic| walk_at "binaryOp Mult int int") => `(tactic| (k_here; with_reducible refine r_mul ?_ ?_))
local macro_rules | `(tactic| walk_at "binaryOp FloorDiv int int") => `(tactic| (k_here; with_reducible refine r_fdiv ?_ ?_))
local macro_rules | `(tactic| walk_at "binaryOp Mod int int") => `(tactic| (k_here; with_reducible refine r_mod ?_ ?_))
local macro_rules | `(tactic| walk_at "binaryOp RShift int int") => `(tactic| (k_here; with_reducible refine r_rsh ?_ ?_))
local macro_rules | `(tactic| walk_at "inplaceOp RShift int int") => `(tactic| (k_here; with_reducible refine r_irsh ?_ ?_))
local macro_rules | `(tactic| walk_at "call builtin:divmod") => `(tactic| (k_here; k_dflt (refine' r_divmod ?k1 ?k2 ?_ ?_; (case k1 => k_asm); (case k2 => k_asm)); intro p9 h9 F9 N9 l9; (try k_lt l9)))
local macro_rules | `(tactic| walk_at "call builtin:list.append") => `(tactic| (k_here; k_dflt (refine' r_append ?k1 ?k2 ?k3 ?_ ?_; (case k1 => k_asm); (case k2 => k_asm); (case k3 => k_upd)); intro h' F' N'; (try k_sweep)))
local macro_rules | `(tactic| walk_at "call ref") => `(tactic| (k_here; k_extra "mycall"))

local macro_rules | `(tactic| walk_at "pyIter ref") => `(tactic| (k_here; first | k_extra "pyIter ref" | refine Ob.out ?_))
local macro_rules | `(tactic| walk_at "LpPost") => `(tactic| (dsimp only [LpPost]))
local macro_rules | `(tactic| walk_at "LpEnd") => `(tactic| (k_extra "lpend"))

local macro_rules | `(tactic| walk_at "subscriptTail Name Name ref int") => `(tactic| (k_here; k_dflt (refine' r_item ?k1 ?k2 ?k3 ?_ ?_ ?_; (case k1 => k_asm); (case k2 => kcj_m); (case k3 => assumption)); intro t9))
local macro_rules | `(tactic| walk_at "subscriptTail Name Constant ref int") => `(tactic| (k_here; k_dflt (refine' r_item ?k1 ?k2 ?k3 ?_ ?_ ?_; (case k1 => k_asm); (case k2 => kcj_m); (case k3 => assumption)); intro t9))
local macro_rules | `(tactic| walk_at "call builtin:len") => `(tactic| (k_here; k_dflt (refine' r_len ?k1 ?k2 ?_ ?_; (case k1 => k_asm); (case k2 => kcj_m))))

local macro_rules | `(tactic| walk_at "subscriptTail Name BinOp ref int") => `(tactic| (k_here; k_dflt (refine' r_item ?k1 ?k2 ?k3 ?_ ?_ ?_; (case k1 => k_asm); (case k2 => kcj_m); (case k3 => exact IntsAre.cons _ _ (IntsAre.cons _ _ IntsAre.nil))); intro t9))
set_option maxHeartbeats 8000000 in
theorem c_in_order (w : World) (mean : ExcName → Option Value) (mg mb : Str → Option Value) (news : List (Addr × Obj)) (mm ww W : Nat) (common : Int) (t0 t1 t2 t3 : Tok) (H : Ob (InPre mm ww W common)) :
   Cl w mean mg mb 84 13 news [.int W t0, .int mm t1, .int ww t2, .int common t3] (RetI news (runN mm ww W mm : Nat)) := by
  unfold Cl; k_fill
  intro dp un gd cn cs a9 ccd cl outer A₀ base h₀ L m s Q E hB hF hX hN hTop hk hdp hun hret
  k_with_none
  have hm8 := H.m8; have hw9 := H.w9
  have hm5 := H.m5
  k_with "mycall" => first | (refine' c_isub _ _ _ _ _ _ _ _ _ _ _ _ _ _ _ _ _ _ _ _ _ _ _ _ _ _ ?k1 ?k2 ?k3 ?k4 ?k5 ?kK ?kd ?ku ?_; (case k1 => k_asm); (case k2 => k_asm); (case k3 => k_asm); (case k4 => k_asm); (case k5 => k_asm); (case kK => exact rfl); (case kd => cb_room); (case ku => cb_units); intro t9 h9 tk9 F9 N9) | (refine' c_iadd _ _ _ _ _ _ _ _ _ _ _ _ _ _ _ _ _ _ _ _ _ _ _ _ _ _ ?k1 ?k2 ?k3 ?k4 ?k5 ?kK ?kd ?ku ?_; (case k1 => k_asm); (case k2 => k_asm); (case k3 => k_asm); (case k4 => k_asm); (case k5 => k_asm); (case kK => exact rfl); (case kd => cb_room); (case ku => cb_units); intro t9 h9 tk9 F9 N9) | (refine' c_iand _ _ _ _ _ _ _ _ _ _ _ _ _ _ _ _ _ _ _ _ _ _ _ _ _ _ ?k1 ?k2 ?k3 ?k4 ?k5 ?kK ?kd ?ku ?_; (case k1 => k_asm); (case k2 => k_asm); (case k3 => k_asm); (case k4 => k_asm); (case k5 => k_asm); (case kK => exact rfl); (case kd => cb_room); (case ku => cb_units); intro t9 h9 tk9 F9 N9) | (refine' c_ixor _ _ _ _ _ _ _ _ _ _ _ _ _ _ _ _ _ _ _ _ _ _ _ _ _ _ ?k1 ?k2 ?k3 ?k4 ?k5 ?kK ?kd ?ku ?_; (case k1 => k_asm); (case k2 => k_asm); (case k3 => k_asm); (case k4 => k_asm); (case k5 => k_asm); (case kK => exact rfl); (case kd => cb_room); (case ku => cb_units); intro t9 h9 tk9 F9 N9) | (refine' c_ilshift _ _ _ _ _ _ _ _ _ ?_ _ _ _ _ _ _ _ _ _ _ _ _ _ _ _ _ _ ?k1 ?k2 ?k3 ?k4 ?k5 ?kK ?kd ?ku ?_; (case k1 => k_asm); (case k2 => k_asm); (case k3 => k_asm); (case k4 => k_asm); (case k5 => k_asm); (case kK => exact rfl); (case kd => cb_room); (case ku => cb_units); rotate_left; intro t9 h9 tk9 F9 N9) | (refine' d_every _ _ _ _ _ _ _ _ _ _ _ ?_ _ _ _ _ _ _ _ _ _ _ _ _ _ _ _ _ _ ?k1 ?k2 ?k3 ?k4 ?k5 ?kK ?kd ?ku ?_; (case k1 => k_asm); (case k2 => k_asm); (case k3 => k_asm); (case k4 => k_asm); (case k5 => k_asm); (case kK => exact rfl); (case kd => cb_room); (case ku => cb_units); rotate_left; intro t9 h9 tk9 F9 N9)
  k_with "pyIter ref" => k_dflt (
    (rename Fr _ _ _ _ => lF'); (rename News _ _ _ _ => lN'); (rename IsRange _ _ _ _ _ _ _ _ => rgX)
    refine' lp_range (σ := Int × Tok) (fun c => []) _ (fun c => [(Str.ofString "word", .int c.1 c.2)]) [Str.ofString "marks", Str.ofString "field", Str.ofString "low", Str.ofString "high", Str.ofString "told", Str.ofString "change"] (fun i c => c.1 = ((runN mm ww W i : Nat) : Int)) (_, _) rfl rgX (small_one (by omega) (by omega) (by omega) (by omega)) (rangeSize_nat _ _) lF' lN' ?lk rfl ?_ ?_
    (case lk => first | exact List.forall_mem_nil _ | kst_all)
    all_goals (try clear lF' lN')
    rotate_left
    rintro ⟨v, tv⟩ u h tk hP F' N'; (try dsimp only [List.cons_append, List.nil_append, kstB, lpM] at N' hP F'); rw [tn_sub] at hP
    rotate_left
    rintro ⟨v, tv⟩ i t u I it h tk hi hne hic hP F' N'; (try dsimp only [List.cons_append, List.nil_append, kstB, lpM] at N' hne hP F'); have hi' : i < mm := (by omega))
  k_with "lpend" => k_dflt (
    (rename News _ _ _ _ => nE'); (try simp only [List.push_toArray] at nE')
    refine' LpEnd.intro (_, _) ?e1 nE' ?e3 ?e4 ?e5 ?e6 ?e7 ?e8
    (case e1 => k_asm); (case e3 => kcj_in); (case e4 => kcj_m); (case e5 => first | exact List.forall_mem_nil _ | (intro p9 hp9; (repeat' (rcases List.mem_cons.mp hp9 with rfl | hp9)); all_goals first | exact ne_cls rfl (by assumption) (by decide) | exact absurd hp9 (List.not_mem_nil))); (case e6 => kst_all); (case e7 => kst_same); (case e8 => exact ord_step (by assumption) (change_cast (by omega) (by assumption) (low_at H _))))
  refine wpAny_call ?_
  k_dflt cell_enter
  k_steps
  all_goals first
    | exact H.s1
    | exact H.s2
    | exact H.e0
    | exact H.e1
    | exact py2 _
    | exact item2 _ _ _
    | exact item2' _
    | (show _ ≠ _; decide)
    | (show 0 ≤ _; omega)
    | exact ord_ob2 H (low_at H _)
    | exact ord_ob H (change_cast (by omega) (by assumption) (low_at H _))
    | (rw [RetI, ← (by assumption : _ = ((runN mm ww W mm : Nat) : Int))] at hret; (refine' hret _ _ _ ?e1 (cb_drop ?e2 ?e3); (case e1 => k_asm); (case e2 => k_asm); (case e3 => kcj_all)))
    | skip
end Mine
end
section
open PySem PySem.W PyProof.Rows
namespace Mine
/-! the sort's questions, answered by an order -/
def KRun {α : Type} (lt : Nat → Nat → Bool) (n : Nat) : KasT α → (α → Prop) → Prop
  | .ret a, P => P a
  | .ask i j k, P => i < n ∧ j < n ∧ KRun lt n (k (lt i j)) P
theorem KRun.bind {α β : Type} {lt : Nat → Nat → Bool} {n : Nat} {f : α → KasT β} {P : β → Prop} : ∀ {t : KasT α}, KRun lt n t (fun a => KRun lt n (f a) P) → KRun lt n (t.bind f) P
  | .ret _, h => h
  | .ask _ _ _, ⟨h1, h2, h3⟩ => ⟨h1, h2, KRun.bind h3⟩
theorem KRun.mono {α : Type} {lt : Nat → Nat → Bool} {n : Nat} {P P' : α → Prop} (hp : ∀ a, P a → P' a) : ∀ {t : KasT α}, KRun lt n t P → KRun lt n t P'
  | .ret _, h => hp _ h
  | .ask _ _ _, ⟨h1, h2, h3⟩ => ⟨h1, h2, KRun.mono hp h3⟩
theorem KRun.wp {α : Type} {lt : Nat → Nat → Bool} {n : Nat} {cmp : Nat → Nat → (Bool → Shared → Prop) → Shared → Prop} {s : Shared} (hc : ∀ i j C, i < n → j < n → C (lt i j) s → cmp i j C s) {Q : α → Shared → Prop} {P : α → Prop} (hq : ∀ a, P a → Q a s) :
    ∀ {t : KasT α}, KRun lt n t P → t.kasWp cmp Q s
  | .ret _, h => hq _ h
  | .ask i j k, ⟨h1, h2, h3⟩ => hc i j _ h1 h2 (KRun.wp hc hq h3)
/-- an order of the numbers below n -/
structure StrictOn (lt : Nat → Nat → Bool) (n : Nat) : Prop where
  asym : ∀ a b, a < n → b < n → a ≠ b → lt a b = !lt b a
  trans : ∀ a b c, a < n → b < n → c < n → lt a b = true → lt b c = true → lt a c = true
def PermN (n : Nat) (p : Array Nat) : Prop := p.toList.Perm (List.range n)
def SrtTo (lt : Nat → Nat → Bool) (p : Array Nat) (m : Nat) : Prop := ∀ i j, i < j → j < m → lt (p.getD i 0) (p.getD j 0) = true
section
variable {lt : Nat → Nat → Bool} {n : Nat} {p : Array Nat}
theorem PermN.size (h : PermN n p) : p.size = n := by
  have := h.length_eq
  rw [List.length_range, Array.length_toList] at this
  exact this
theorem PermN.bd (h : PermN n p) {i : Nat} (hi : i < n) : p.getD i 0 < n := by
  have hs := h.size
  have : p.getD i 0 ∈ p.toList := by simp [Array.getD, (show i < p.size by omega)]
  exact List.mem_range.mp (h.mem_iff.mp this)
theorem PermN.ne (h : PermN n p) {i j : Nat} (hi : i < n) (hj : j < n) (hij : i ≠ j) : p.getD i 0 ≠ p.getD j 0 := by
  have hs := h.size
  have hn : p.toList.Nodup := h.nodup_iff.mpr List.nodup_range
  have h1 : i < p.toList.length := by rw [Array.length_toList]; omega
  have h2 : j < p.toList.length := by rw [Array.length_toList]; omega
  intro e
  have e1 : p.getD i 0 = p.toList[i] := by simp [Array.getD, (show i < p.size by omega)]
  have e2 : p.getD j 0 = p.toList[j] := by simp [Array.getD, (show j < p.size by omega)]
  rw [e1, e2] at e
  exact hij ((List.getElem_inj hn).mp e)
theorem PermN.of_perm {q : Array Nat} (h : PermN n p) (hq : q.Perm p) : PermN n q := (Array.Perm.toList hq).trans h
theorem SrtTo.snoc (O : StrictOn lt n) (H : PermN n p) {m : Nat} (hm : m < n) (h1 : 1 ≤ m) (h : SrtTo lt p m) (hl : lt (p.getD (m - 1) 0) (p.getD m 0) = true) : SrtTo lt p (m + 1) := by
  intro i j hij hj
  rcases Nat.lt_or_ge j m with h2 | h2
  · exact h i j hij h2
  · have : j = m := by omega
    subst this
    rcases Nat.lt_or_ge i (j - 1) with h3 | h3
    · exact O.trans _ _ _ (H.bd (by omega)) (H.bd (by omega)) (H.bd hm) (h i (j - 1) h3 (by omega)) hl
    · have : i = j - 1 := by omega
      rw [this]; exact hl
/-- the run that rises -/
theorem asc_run (O : StrictOn lt n) (H : PermN n p) : ∀ (f m : Nat), 1 ≤ m → m + f ≤ n → SrtTo lt p m → KRun lt n (kas_asc p f m) (fun r => m ≤ r ∧ r ≤ m + f ∧ SrtTo lt p r ∧ (r < m + f → lt (p.getD r 0) (p.getD (r - 1) 0) = true))
  | 0, m, _, _, h => ⟨Nat.le_refl _, Nat.le_refl _, h, fun h => absurd h (Nat.lt_irrefl _)⟩
  | f + 1, m, h1, h2, h => by
    unfold kas_asc
    refine ⟨H.bd (by omega), H.bd (by omega), ?_⟩
    cases e : lt (p.getD m 0) (p.getD (m - 1) 0) with
    | true =>
      dsimp only
      rw [if_pos rfl]
      exact ⟨Nat.le_refl _, by omega, h, fun _ => e⟩
    | false =>
      dsimp only
      rw [if_neg Bool.false_ne_true]
      have h3 := O.asym (p.getD (m - 1) 0) (p.getD m 0) (H.bd (by omega)) (H.bd (by omega)) (H.ne (by omega) (by omega) (by omega))
      rw [e] at h3
      refine KRun.mono (fun r hr => ?_) (asc_run O H f (m + 1) (by omega) (by omega) (h.snoc O H (by omega) h1 h3))
      exact ⟨by omega, by omega, hr.2.2.1, fun hlt => hr.2.2.2 (by omega)⟩
def DesTo (lt : Nat → Nat → Bool) (p : Array Nat) (m : Nat) : Prop := ∀ i j, i < j → j < m → lt (p.getD j 0) (p.getD i 0) = true
theorem DesTo.snoc (O : StrictOn lt n) (H : PermN n p) {m : Nat} (hm : m < n) (h1 : 1 ≤ m) (h : DesTo lt p m) (hl : lt (p.getD m 0) (p.getD (m - 1) 0) = true) : DesTo lt p (m + 1) := by
  intro i j hij hj
  rcases Nat.lt_or_ge j m with h2 | h2
  · exact h i j hij h2
  · have : j = m := by omega
    subst this
    rcases Nat.lt_or_ge i (j - 1) with h3 | h3
    · exact O.trans _ _ _ (H.bd hm) (H.bd (by omega)) (H.bd (by omega)) hl (h i (j - 1) h3 (by omega))
    · have : i = j - 1 := by omega
      rw [this]; exact hl
theorem desc_run (O : StrictOn lt n) (H : PermN n p) : ∀ (f m : Nat), 1 ≤ m → m + f ≤ n → DesTo lt p m → KRun lt n (kas_desc f p m 0) (fun r => r.1 = p ∧ m ≤ r.2.1 ∧ r.2.1 ≤ m + f ∧ r.2.2 = 0 ∧ DesTo lt p r.2.1)
  | 0, m, _, _, h => ⟨rfl, Nat.le_refl _, Nat.le_refl _, rfl, h⟩
  | f + 1, m, h1, h2, h => by
    unfold kas_desc
    refine ⟨H.bd (by omega), H.bd (by omega), ?_⟩
    cases e : lt (p.getD m 0) (p.getD (m - 1) 0) with
    | true =>
      dsimp only
      rw [if_pos rfl, if_neg (by omega)]
      refine KRun.mono (fun r hr => ?_) (desc_run O H f (m + 1) (by omega) (by omega) (h.snoc O H (by omega) h1 e))
      exact ⟨hr.1, by omega, by omega, hr.2.2.2.1, hr.2.2.2.2⟩
    | false =>
      dsimp only
      rw [if_neg Bool.false_ne_true]
      have h3 := O.asym (p.getD (m - 1) 0) (p.getD m 0) (H.bd (by omega)) (H.bd (by omega)) (H.ne (by omega) (by omega) (by omega))
      rw [e] at h3
      refine ⟨H.bd (by omega), H.bd (by omega), ?_⟩
      rw [h3]
      dsimp only
      exact ⟨rfl, Nat.le_refl _, by show m ≤ _; omega, rfl, h⟩
theorem getD_of {q : Array Nat} (k : Nat) : q.getD k 0 = q[k]?.getD 0 := by simp [Array.getD_eq_getD_getElem?]
theorem rev_get (H : PermN n p) {m k : Nat} (hm : m ≤ n) : (kas_rev p 0 m).getD k 0 = if k < m then p.getD (m - 1 - k) 0 else p.getD k 0 := by
  rw [getD_of, getD_of, getD_of]
  unfold kas_rev
  rw [getElem?_mirror_all (by rw [H.size]; exact hm)]
  by_cases h : k < m
  · rw [if_pos ⟨Nat.zero_le _, h⟩, if_pos h, Nat.zero_add]
  · rw [if_neg (fun x => h x.2), if_neg h]
theorem rev_perm (H : PermN n p) (i j : Nat) : PermN n (kas_rev p i j) := H.of_perm (mirror_perm _ _ _ _)
theorem rev_srt (H : PermN n p) {m : Nat} (hm : m ≤ n) (h : DesTo lt p m) : SrtTo lt (kas_rev p 0 m) m := by
  intro i j hij hj
  rw [rev_get H hm, rev_get H hm, if_pos (by omega), if_pos hj]
  exact h _ _ (by omega) (by omega)
theorem desPart_run (O : StrictOn lt n) (H : PermN n p) {m : Nat} (h1 : 1 ≤ m) (hm : m < n) (h : DesTo lt p (m + 1)) : KRun lt n (kas_descPart m n p) (fun r => 1 ≤ r.1 ∧ r.1 ≤ n ∧ PermN n r.2 ∧ (SrtTo lt r.2 r.1)) := by
  unfold kas_descPart
  refine KRun.bind (KRun.mono (fun r hr => ?_) (desc_run O H (n - (m + 1)) (m + 1) (by omega) (by omega) h))
  obtain ⟨e1, e2, e3, e4, e5⟩ := hr
  rw [e4, if_neg (by omega), e1]
  unfold kas_tail3
  have hn : r.2.1 ≤ n := by omega
  have H' := rev_perm H 0 r.2.1
  refine KRun.bind (KRun.mono (fun a ha => ?_) (asc_run O H' (n - r.2.1) r.2.1 (by omega) (by omega) (rev_srt H hn e5)))
  exact ⟨by show 1 ≤ a; omega, by show a ≤ n; omega, H', ha.2.2.1⟩
theorem count_run (O : StrictOn lt n) (H : PermN n p) (hn : 1 ≤ n) : KRun lt n (kas_count n p) (fun r => 1 ≤ r.1 ∧ r.1 ≤ n ∧ PermN n r.2 ∧ SrtTo lt r.2 r.1) := by
  unfold kas_count
  have h1 : SrtTo lt p 1 := fun i j hij hj => absurd hij (by omega)
  refine KRun.bind (KRun.mono (fun m hm => ?_) (asc_run O H (n - 1) 1 (Nat.le_refl _) (by omega) h1))
  obtain ⟨a1, a2, a3, a4⟩ := hm
  split
  · exact ⟨a1, by show m ≤ n; omega, H, a3⟩
  · rename_i hne
    have hne : m ≠ n := by simpa using hne
    split
    · rename_i hm1
      refine ⟨H.bd (by omega), H.bd (by omega), ?_⟩
      rw [a3 0 (m - 1) (by omega) (by omega)]
      exact ⟨a1, by show m ≤ n; omega, H, a3⟩
    · have e : m = 1 := by omega
      subst e
      refine desPart_run O H (Nat.le_refl _) (by omega) fun i j hij hj => ?_
      have hi : i = 0 := by omega
      have hj : j = 1 := by omega
      subst hi hj
      exact a4 (by omega)
theorem place_run (O : StrictOn lt n) (H : PermN n p) {k : Nat} (hk : k < n) (hs : SrtTo lt p k) : ∀ (f l r : Nat), l ≤ r → r ≤ k → r - l ≤ f → (∀ i, i < l → lt (p.getD i 0) (p.getD k 0) = true) → (∀ i, r ≤ i → i < k → lt (p.getD k 0) (p.getD i 0) = true) →
    KRun lt n (kas_place p k f l r) (fun x => x ≤ k ∧ (∀ i, i < x → lt (p.getD i 0) (p.getD k 0) = true) ∧ (∀ i, x ≤ i → i < k → lt (p.getD k 0) (p.getD i 0) = true))
  | 0, l, r, h1, h2, h3, h4, h5 => by
    have e : l = r := by omega
    subst e
    exact ⟨h2, h4, h5⟩
  | f + 1, l, r, h1, h2, h3, h4, h5 => by
    unfold kas_place
    split
    · have e : l = r := by omega
      subst e
      exact ⟨h2, h4, h5⟩
    · rename_i hlr
      have hm : (l + r) / 2 < k := by omega
      refine ⟨H.bd hk, H.bd (by omega), ?_⟩
      cases e : lt (p.getD k 0) (p.getD ((l + r) / 2) 0) with
      | true =>
        dsimp only
        rw [if_pos rfl]
        refine place_run O H hk hs f _ _ (by omega) (by omega) (by omega) h4 fun i hi hik => ?_
        rcases Nat.lt_or_ge ((l + r) / 2) i with h6 | h6
        · exact O.trans _ _ _ (H.bd hk) (H.bd (by omega)) (H.bd (by omega)) e (hs _ _ h6 hik)
        · have : i = (l + r) / 2 := by omega
          rw [this]; exact e
      | false =>
        dsimp only
        rw [if_neg Bool.false_ne_true]
        have h7 := O.asym (p.getD ((l + r) / 2) 0) (p.getD k 0) (H.bd (by omega)) (H.bd hk) (H.ne (by omega) hk (by omega))
        rw [e] at h7
        refine place_run O H hk hs f _ _ (by omega) h2 (by omega) (fun i hi => ?_) h5
        rcases Nat.lt_or_ge i ((l + r) / 2) with h6 | h6
        · exact O.trans _ _ _ (H.bd (by omega)) (H.bd (by omega)) (H.bd hk) (hs _ _ h6 hm) h7
        · have : i = (l + r) / 2 := by omega
          rw [this]; exact h7
theorem bub_get (H : PermN n p) {k x i : Nat} (hk : k < n) (hx : x ≤ k) : (bubble p k (k - x)).getD i 0 = if i = x then p.getD k 0 else if x < i ∧ i ≤ k then p.getD (i - 1) 0 else p.getD i 0 := by
  rw [getD_of, getD_of, getD_of, getD_of, getElem?_bubble (by rw [H.size]; exact hk) _ (by omega), show k - (k - x) = x by omega]
  by_cases h1 : i = x
  · rw [if_pos h1, if_pos h1]
  · rw [if_neg h1, if_neg h1]
    by_cases h2 : x < i ∧ i ≤ k
    · rw [if_pos h2, if_pos h2]
    · rw [if_neg h2, if_neg h2]
theorem bub_srt (H : PermN n p) {k x : Nat} (hk : k < n) (hs : SrtTo lt p k) (hx : x ≤ k) (h1 : ∀ i, i < x → lt (p.getD i 0) (p.getD k 0) = true) (h2 : ∀ i, x ≤ i → i < k → lt (p.getD k 0) (p.getD i 0) = true) :
    SrtTo lt (bubble p k (k - x)) (k + 1) := by
  intro i j hij hj
  rw [bub_get H hk hx, bub_get H hk hx]
  by_cases e1 : i = x
  · rw [if_pos e1, if_neg (by omega), if_pos (by omega)]
    exact h2 _ (by omega) (by omega)
  · rw [if_neg e1]
    by_cases e2 : x < i ∧ i ≤ k
    · rw [if_pos e2, if_neg (by omega), if_pos (by omega)]
      exact hs _ _ (by omega) (by omega)
    · rw [if_neg e2]
      have hi : i < x := by omega
      by_cases e3 : j = x
      · rw [if_pos e3]; exact h1 i hi
      · rw [if_neg e3]
        by_cases e4 : x < j ∧ j ≤ k
        · rw [if_pos e4]; exact hs _ _ (by omega) (by omega)
        · rw [if_neg e4]; exact hs _ _ hij (by omega)
theorem bin_run (O : StrictOn lt n) : ∀ (f : Nat) (p : Array Nat) (k : Nat), PermN n p → 1 ≤ k → k + f = n → SrtTo lt p k → KRun lt n (kas_bin f p k) (fun q => PermN n q ∧ SrtTo lt q n)
  | 0, p, k, H, _, h2, h => by
    have : k = n := by omega
    subst this
    exact ⟨H, h⟩
  | f + 1, p, k, H, h1, h2, h => by
    unfold kas_bin
    refine KRun.bind (KRun.mono (fun x hx => ?_) (place_run O H (by omega) h k 0 k (Nat.zero_le _) (Nat.le_refl _) (by omega) (fun i hi => absurd hi (Nat.not_lt_zero i)) fun i h5 h6 => absurd h6 (by omega)))
    exact bin_run O f _ (k + 1) (H.of_perm (bubble_perm _ _ _)) (by omega) (by omega) (bub_srt H (by omega) h hx.1 hx.2.1 hx.2.2)
theorem sort_run (O : StrictOn lt n) (hn : 1 ≤ n) : KRun lt n (kas_sort n) (fun q => PermN n q ∧ SrtTo lt q n) := by
  unfold kas_sort
  refine KRun.bind (KRun.mono (fun r hr => ?_) (count_run O (show PermN n (List.toArray (List.range n)) from List.Perm.refl _) hn))
  obtain ⟨a1, a2, a3, a4⟩ := hr
  split
  · rw [show max r.1 1 = r.1 by omega]
    exact bin_run O _ _ _ a3 a1 (by omega) a4
  · have : r.1 = n := by omega
    rw [this] at a4
    exact ⟨a3, a4⟩
end
end Mine
end
section
open PySem PySem.W PyProof.Rows PySem.Calls PySem.Spec
set_option maxRecDepth 100000
namespace Mine
/-! sorted() of a list of pairs -/
def lexLt (x y : Int × Int) : Bool := decide (x.1 < y.1) || (decide (x.1 = y.1) && decide (x.2 < y.2))
def ltL (tl : List TT) (i j : Nat) : Bool := lexLt ((tl.map TT.v).getD i (0, 0)) ((tl.map TT.v).getD j (0, 0))
section
variable {prog : Program} {w : World} {A : Around} {E : Value → Shared → Prop} {s : Shared} {h₀ : Heap} {L : Addr} {m : Str → Option Value} {nw : List (Addr × Obj)}
theorem tt_getD {tl : List TT} {i : Nat} (hi : i < tl.length) : (tl.map TT.r).getD i Value.none = .ref tl[i].p ∧ (tl.map TT.v).getD i (0, 0) = tl[i].v := by
  constructor
  · simp [List.getD_eq_getElem?_getD, hi]
  · simp [List.getD_eq_getElem?_getD, hi]
theorem ask_tt {tl : List TT} (htl : ∀ y ∈ tl, s.heap.get? y.p = some y.e.2) {i j : Nat} (hi : i < tl.length) (hj : j < tl.length) {C : Bool → Shared → Prop} (h : C (ltL tl i j) s) : kas_ask prog w A (tuples' true) (tl.map TT.r) i j C s := by
  unfold kas_ask
  rw [(tt_getD hi).1, (tt_getD hj).1]
  unfold ltL lexLt at h
  rw [(tt_getD hi).2, (tt_getD hj).2] at h
  have e1 := htl _ (List.getElem_mem hi)
  have e2 := htl _ (List.getElem_mem hj)
  generalize tl[i] = x at h e1 ⊢
  generalize tl[j] = y at h e2 ⊢
  obtain ⟨xp, xa, xt, xb, xu⟩ := x
  obtain ⟨yp, ya, yt, yb, yu⟩ := y
  refine kat_lt e1 rfl e2 rfl ?_
  show KatLex prog w A true false C [(.int xa xt, .int ya yt), (.int xb xu, .int yb yu)] 0 s
  dsimp only [TT.v] at h
  refine kat_cons (wpAny_eqBool_int ?_)
  by_cases ha : xa = ya
  · subst ha
    rw [beq_self_eq_true]
    refine kat_yes (kat_cons (wpAny_eqBool_int ?_))
    rw [decide_eq_false (Int.lt_irrefl _), decide_eq_true rfl, Bool.false_or, Bool.true_and] at h
    by_cases hb : xb = yb
    · subst hb
      rw [beq_self_eq_true]
      rw [decide_eq_false (Int.lt_irrefl _)] at h
      exact kat_yes (kat_nil h)
    · rw [show (xb == yb) = false from by simpa using hb]
      refine kat_no ?_
      show wpAny (model prog w) A (oneLt' false (.int xb xu) (.int yb yu)) C (fun _ _ => False) s
      refine kat_one _ _ (PyProof.Rows.lt_int ?_)
      exact h
  · rw [show (xa == ya) = false from by simpa using ha]
    refine kat_no ?_
    show wpAny (model prog w) A (oneLt' true (.int xa xt) (.int ya yt)) C (fun _ _ => False) s
    rw [decide_eq_false ha, Bool.false_and, Bool.or_false] at h
    exact oneLt_int h
theorem ltL_strict {tl : List TT} (hn : (tl.map fun y => y.b).Nodup) : StrictOn (ltL tl) tl.length where
  asym := fun i j hi hj hij => by
    unfold ltL lexLt
    rw [(tt_getD hi).2, (tt_getD hj).2]
    have hb : tl[i].b ≠ tl[j].b := by
      intro e
      have h1 : i < (tl.map fun y => y.b).length := by rw [List.length_map]; exact hi
      have h2 : j < (tl.map fun y => y.b).length := by rw [List.length_map]; exact hj
      exact hij ((List.getElem_inj hn (h₀ := h1) (h₁ := h2)).mp (by rw [List.getElem_map, List.getElem_map]; exact e))
    dsimp only [TT.v]
    by_cases h1 : tl[i].a < tl[j].a
    · have h2 : ¬ tl[j].a < tl[i].a := by omega
      have h3 : ¬ tl[j].a = tl[i].a := by omega
      simp [h1, h2, h3]
    · by_cases h2 : tl[j].a < tl[i].a
      · have h3 : ¬ tl[i].a = tl[j].a := by omega
        simp [h1, h2, h3]
      · have h3 : tl[i].a = tl[j].a := by omega
        by_cases h4 : tl[i].b < tl[j].b
        · have h5 : ¬ tl[j].b < tl[i].b := by omega
          simp [h3, h4, h5]
        · have h5 : tl[j].b < tl[i].b := by omega
          simp [h3, h4, h5]
  trans := fun i j k hi hj hk => by
    unfold ltL lexLt
    rw [(tt_getD hi).2, (tt_getD hj).2, (tt_getD hk).2]
    dsimp only [TT.v]
    simp only [Bool.or_eq_true, Bool.and_eq_true, decide_eq_true_eq]
    omega
theorem tups_of : ∀ (tl : List TT), (∀ y ∈ tl, s.heap.get? y.p = some y.e.2) → KatTups s.heap (tl.map TT.r) (tl.map fun y => Value.int y.a y.t)
  | [], _ => KatTups.nil
  | y :: r, h => KatTups.cons (h y List.mem_cons_self) rfl rfl rfl (tups_of r fun z hz => h z (List.mem_cons_of_mem _ hz))
theorem r_sorted_tt {q : Addr} {kk : Nat} {tl : List TT} {Q : Value → Shared → Prop} (F : Fr h₀ L s.heap m) (N : News h₀ L s.heap nw) (hq : (q, listOf (tl.map TT.r).toArray kk) ∈ nw) (htl : ∀ y ∈ tl, y.e ∈ nw) (h2 : 2 ≤ tl.length) (h64 : tl.length < 64) (hn : (tl.map fun y => y.b).Nodup)
    (h : ∀ D (tl' : List TT) c h', tl'.Perm tl → tl'.Pairwise (fun x y => lexLt x.v y.v = true) → Fr h₀ L h' m → News h₀ L h' ((D, listOf (tl'.map TT.r).toArray c) :: nw) → (∀ p ∈ nw, p.1 < D) → Q (.ref D) { s with heap := h' }) :
    wpAny (model prog w) A (call (.builtin "sorted") [.ref q]) Q E s := by
  have hol : s.heap.IsList q (tl.map TT.r).toArray := ⟨_, (N _ hq).1, rfl, kk, rfl⟩
  refine kat_sorted F N hol (by rw [List.length_map]; exact h2) (by rw [List.length_map]; exact h64) fun D e1 h1 F1 N1 l1 => ?_
  have htl1 : ∀ y ∈ tl, h1.get? y.p = some y.e.2 := fun y hy => (N1 _ (List.mem_cons_of_mem _ (htl y hy))).1
  refine kat_kind (T := .type "int") (tups_of (s := { s with heap := h1 }) tl htl1) (by rw [List.length_map]; omega) (fun v hv => ?_) rfl ?_
  · obtain ⟨y, _, rfl⟩ := List.mem_map.mp hv
    exact Looks.of_pure rfl
  · rw [List.length_map]
    refine KRun.wp (lt := ltL tl) (n := tl.length) (fun i j C hi hj hc => ask_tt (s := { s with heap := h1 }) htl1 hi hj hc) (fun p hp => ?_) (sort_run (ltL_strict hn) (by omega))
    obtain ⟨hP, hS⟩ := hp
    refine KasFin.intro F1 N1 (.head fun r hr => Nat.ne_of_lt (l1 r hr)) fun h' c F' N' => ?_
    have e : (p.toList.map fun i => (tl.map TT.r).getD i Value.none) = (p.toList.filterMap (tl[·]?)).map TT.r := by
      have : ∀ l : List Nat, (∀ i ∈ l, i < tl.length) → (l.map fun i => (tl.map TT.r).getD i Value.none) = (l.filterMap (tl[·]?)).map TT.r := by
        intro l
        induction l with
        | nil => intro _; rfl
        | cons i r ih =>
          intro hb
          have hi := hb i List.mem_cons_self
          rw [List.map_cons, List.filterMap_cons_some (b := tl[i]) (List.getElem?_eq_getElem hi), List.map_cons, ih fun j hj => hb j (List.mem_cons_of_mem _ hj), (tt_getD hi).1]
      exact this _ fun i hi => List.mem_range.mp (hP.mem_iff.mp hi)
    rw [e] at N'
    refine h D _ c h' ?_ ?_ F' N' l1
    · have := hP.filterMap (tl[·]?)
      rw [List.filterMap_getElem?_range_length] at this
      exact this
    · have hb : ∀ i ∈ p.toList, i < tl.length := fun i hi => List.mem_range.mp (hP.mem_iff.mp hi)
      have hpw : p.toList.Pairwise (fun i j => ltL tl i j = true) := by
        rw [List.pairwise_iff_getElem]
        intro i j hi hj hij
        rw [Array.length_toList] at hi hj
        have := hS i j hij (by rw [← hP.size]; exact hj)
        simpa [Array.getD, hi, hj] using this
      revert hb hpw
      generalize p.toList = l
      clear hP hS e N' F'
      intro hb hpw
      induction l with
      | nil => exact .nil
      | cons i r ih =>
        have hi := hb i List.mem_cons_self
        obtain ⟨p1, p2⟩ := List.pairwise_cons.mp hpw
        rw [List.filterMap_cons_some (b := tl[i]) (List.getElem?_eq_getElem hi)]
        refine List.pairwise_cons.mpr ⟨fun y hy => ?_, ih (fun j hj => hb j (List.mem_cons_of_mem _ hj)) p2⟩
        obtain ⟨j, hj, ej⟩ := List.mem_filterMap.mp hy
        have hjl := hb j (List.mem_cons_of_mem _ hj)
        have := p1 j hj
        unfold ltL at this
        rw [(tt_getD hi).2, (tt_getD hjl).2] at this
        rw [List.getElem?_eq_getElem hjl] at ej
        rw [← Option.some.inj ej]
        exact this
end
end Mine
end
section
open PySem PySem.W PyProof.Rows PySem.Calls PySem.Spec
open PyProof.Rows.LCg (NsObj lst Off3 Off1 SrcAt CompEnd CompRest FinE CompSrc)
open PyProof.Rows.LCt (CompRestT CompSrcT)
namespace Mine
section
variable {prog : Program} {w : World} {A : Around} {E : Value → Shared → Prop} {s : Shared} {h₀ : Heap} {L : Addr} {m : Str → Option Value} {env : Env}
/-- a test's end -/
def CTEnd (h₀ : Heap) (L : Addr) (m : Str → Option Value) (led : List (Addr × Obj)) (g : Bool) (s₁ : Shared) (ok : Bool) (s₂ : Shared) : Prop :=
  ok = g ∧ ∃ (h' : Heap) (tk' : Nat), s₂ = { s₁ with heap := h', toks := tk' } ∧ Fr h₀ L h' m ∧ News h₀ L h' led
theorem CTEnd.intro {led led' : List (Addr × Obj)} {g ok : Bool} {s₁ : Shared} {h' : Heap} {tk' : Nat}
    (F : Fr h₀ L h' m) (N : News h₀ L h' led') (hs : ∀ p ∈ led, p ∈ led') (ha : Ob (ok = g)) : CTEnd h₀ L m led g s₁ ok { s₁ with heap := h', toks := tk' } :=
  ⟨ha, h', tk', rfl, F, fun p hp => N p (hs p hp)⟩
theorem lct_ind {ct elt : Expr} {x : Str} {scope : Scope} {cl : List (Str × Addr)} {S : List (Addr × Obj) → Prop} {P : Nat → Value → Prop} {Fin : List Value → List (Addr × Obj) → Prop} {nw : List (Addr × Obj)} (n : Nat) (f : Nat → Int) (g : Nat → Bool)
    (hS : S nw)
    (test : ∀ i v ys I oI C oC D m₂ (s₁ : Shared) (E' : Value → Shared → Prop), (∃ h tk, s₁ = { s with heap := h, toks := tk }) → i < n → P i v → NsObj oC m₂ → m₂ x = some v → Fr h₀ L s₁.heap m → News h₀ L s₁.heap ((I, oI) :: (C, oC) :: (D, lst ys) :: nw) →
      wpAny (model prog w) A (isTrue ct (compEnvC scope cl C env) (eval ct (compEnvC scope cl C env))) (CTEnd h₀ L m ((I, oI) :: (C, oC) :: (D, lst ys) :: nw) (g i) s₁) E' s₁)
    (turn : ∀ i v ys I oI C oC D m₂ (s₁ : Shared) (E' : Value → Shared → Prop), (∃ h tk, s₁ = { s with heap := h, toks := tk }) → i < n → P i v → NsObj oC m₂ → m₂ x = some v → g i = true → Fr h₀ L s₁.heap m → News h₀ L s₁.heap ((I, oI) :: (C, oC) :: (D, lst ys) :: nw) →
      wpAny (model prog w) A (eval elt (compEnvC scope cl C env)) (CIEnd h₀ L m ((I, oI) :: (C, oC) :: (D, lst ys) :: nw) (f i) s₁) E' s₁)
    (fin : ∀ ys, IntsAre ys (((List.range n).filter g).map f) → Fin ys nw) :
    ∀ (r i : Nat) (ys : List Value), r + i = n → IntsAre ys (((List.range i).filter g).map f) → CompRestT prog w A h₀ L m env ct elt x scope cl s S P Fin r i ys nw
  | 0, i, ys, hr, hy => by
    have e : i = n := by omega
    subst e
    exact CompRestT.zero (fin ys hy)
  | r + 1, i, ys, hr, hy => by
    refine CompRestT.succ fun v I oI C oC D m₂ h tk E' hP hC hx F N off ne => ?_
    refine wpAny_mono (test i v ys I oI C oC D m₂ { s with heap := h, toks := tk } E' ⟨_, _, rfl⟩ (by omega) hP hC hx F N) (fun ok s₂ hz => ?_) fun _ _ e => e
    obtain ⟨rfl, h', tk', rfl, F', N'⟩ := hz
    by_cases hg : g i = true
    · rw [if_pos hg]
      refine wpAny_mono (turn i v ys I oI C oC D m₂ { s with heap := h', toks := tk' } E' ⟨_, _, rfl⟩ (by omega) hP hC hx hg F' N') (fun z s₃ hz => ?_) fun _ _ e => e
      obtain ⟨t, h'', tk'', rfl, rfl, F'', N''⟩ := hz
      refine CompEnd.intro F'' N'' nw (fun p hp => hp) off hS ?_
      refine lct_ind n f g hS test turn fin r (i + 1) _ (by omega) ?_
      rw [List.range_succ, List.filter_append, List.map_append, List.filter_cons_of_pos hg]
      exact IntsAre.append hy (.cons _ _ .nil)
    · rw [if_neg hg]
      refine CompEnd.intro F' N' nw (fun p hp => hp) off hS ?_
      refine lct_ind n f g hS test turn fin r (i + 1) _ (by omega) ?_
      rw [List.range_succ, List.filter_append, List.map_append, List.filter_cons_of_neg hg]
      simpa using hy
/-- a comprehension with a test, of whole numbers over a list -/
theorem r_lct_list {ct elt : Expr} {x : Str} {scope : Scope} {cl : List (Str × Addr)} {Q : Value → Shared → Prop} {q : Addr} {nw : List (Addr × Obj)} {vs : List Value} {kk : Nat} (f : Nat → Int) (g : Nat → Bool)
    (hh : A.handled = none) (F : Fr h₀ L s.heap m) (N : News h₀ L s.heap nw) (hq : (q, listOf vs.toArray kk) ∈ nw) (hsz : vs.length ≤ sizeLine)
    (test : ∀ i v ys I oI C oC D m₂ (s₁ : Shared) (E' : Value → Shared → Prop), (∃ h tk, s₁ = { s with heap := h, toks := tk }) → i < vs.length → vs.toArray[i]? = some v → NsObj oC m₂ → m₂ x = some v → Fr h₀ L s₁.heap m → News h₀ L s₁.heap ((I, oI) :: (C, oC) :: (D, lst ys) :: nw) →
      wpAny (model prog w) A (isTrue ct (compEnvC scope cl C env) (eval ct (compEnvC scope cl C env))) (CTEnd h₀ L m ((I, oI) :: (C, oC) :: (D, lst ys) :: nw) (g i) s₁) E' s₁)
    (turn : ∀ i v ys I oI C oC D m₂ (s₁ : Shared) (E' : Value → Shared → Prop), (∃ h tk, s₁ = { s with heap := h, toks := tk }) → i < vs.length → vs.toArray[i]? = some v → NsObj oC m₂ → m₂ x = some v → g i = true → Fr h₀ L s₁.heap m → News h₀ L s₁.heap ((I, oI) :: (C, oC) :: (D, lst ys) :: nw) →
      wpAny (model prog w) A (eval elt (compEnvC scope cl C env)) (CIEnd h₀ L m ((I, oI) :: (C, oC) :: (D, lst ys) :: nw) (f i) s₁) E' s₁)
    (ret : ∀ D ys h tk, IntsAre ys (((List.range vs.length).filter g).map f) → (∀ p ∈ nw, p.1 ≠ D) → Fr h₀ L h m → News h₀ L h ((D, listOf ys.toArray ys.length) :: nw) → Q (.ref D) { s with heap := h, toks := tk }) :
    CompSrcT prog w A h₀ L m env ct elt x scope cl (fun s₂ => FinE h₀ L m s₂ Q) (.ref q) s := by
  refine CompSrcT.ledger hh F N hq (by rw [List.size_toArray]; exact hsz) fun h9 => ?_
  rw [List.size_toArray]
  refine lct_ind (s := { s with heap := h9 }) (Fin := FinE h₀ L m { s with heap := h9 } Q) vs.length f g (.inr ⟨_, hq, rfl, kk, rfl⟩) test turn ?_ vs.length 0 [] rfl .nil
  intro ys hy D h tk F' N' off
  refine ret D ys h tk hy ?_ F' N'
  clear N N' ret test turn hq
  induction nw with
  | nil => exact fun p hp => (nomatch hp)
  | cons z r ih =>
    intro p hp
    rcases List.mem_cons.mp hp with rfl | hp
    · exact off.1
    · exact ih off.2 p hp
end
end Mine
end
section
open PySem PySem.W PyProof.Rows PySem.Calls PySem.Spec
open PyProof.Rows.LCg (NsObj lst Off3 Off1 SrcAt CompEnd CompRest FinE FinA CompSrc)
open PyProof.Rows.LCp (CompRestP SrcLP)
set_option maxRecDepth 100000
namespace Mine
section
variable {prog : Program} {w : World} {A : Around} {E : Value → Shared → Prop} {s : Shared} {h₀ : Heap} {L : Addr} {m : Str → Option Value} {env : Env}
theorem off_ne {D : Addr} : ∀ {nw : List (Addr × Obj)}, Off1 D nw → ∀ p ∈ nw, p.1 ≠ D
  | [], _ => fun p hp => (nomatch hp)
  | z :: r, off => fun p hp => by
    rcases List.mem_cons.mp hp with rfl | hp
    · exact off.1
    · exact off_ne off.2 p hp
/-- pairs out of things: the turns -/
theorem lcip_ind {elt : Expr} {x : Str} {scope : Scope} {cl : List (Str × Addr)} {S : List (Addr × Obj) → Prop} {P : Nat → Value → Prop} {Fin : List Value → List (Addr × Obj) → Prop} {nw : List (Addr × Obj)} (n : Nat) (f : Nat → Int × Int)
    (hS : ∀ nw', (∀ p ∈ nw, p ∈ nw') → S nw')
    (turn : ∀ i v (nw' : List (Addr × Obj)) ys I oI C oC D m₂ (s₁ : Shared) (E' : Value → Shared → Prop), (∃ h tk, s₁ = { s with heap := h, toks := tk }) → i < n → P i v → (∀ p ∈ nw, p ∈ nw') → NsObj oC m₂ → m₂ x = some v → Fr h₀ L s₁.heap m → News h₀ L s₁.heap ((I, oI) :: (C, oC) :: (D, lst ys) :: nw') →
      wpAny (model prog w) A (eval elt (compEnvC scope cl C env)) (CPEnd h₀ L m ((I, oI) :: (C, oC) :: (D, lst ys) :: nw') (f i).1 (f i).2 s₁) E' s₁)
    (fin : ∀ (tl' : List TT) (nw' : List (Addr × Obj)), tl'.map TT.v = (List.range n).map f → (∀ y ∈ tl', y.e ∈ nw') → (∀ p ∈ nw, p ∈ nw') → Fin (tl'.map TT.r) nw') :
    ∀ (r i : Nat) (tl' : List TT) (nw' : List (Addr × Obj)), r + i = n → tl'.map TT.v = (List.range i).map f → (∀ y ∈ tl', y.e ∈ nw') → (∀ p ∈ nw, p ∈ nw') →
      CompRest prog w A h₀ L m env elt x scope cl s S P Fin r i (tl'.map TT.r) nw'
  | 0, i, tl', nw', hr, hv, ht, hk => by
    have e : i = n := by omega
    subst e
    exact CompRest.zero (fin tl' nw' hv ht hk)
  | r + 1, i, tl', nw', hr, hv, ht, hk => by
    refine CompRest.succ fun v I oI C oC D m₂ h tk E' hP hC hx F N off ne => ?_
    refine wpAny_mono (turn i v nw' _ I oI C oC D m₂ { s with heap := h, toks := tk } E' ⟨_, _, rfl⟩ (by omega) hP hk hC hx F N) (fun z s₂ hz => ?_) fun _ _ e => e
    obtain ⟨y', h', tk', rfl, ha, hb, rfl, F', N', l'⟩ := hz
    refine CompEnd.intro F' N' (y'.e :: nw') (fun p hp => ?_) ?_ (hS _ fun p hp => List.mem_cons_of_mem _ (hk p hp)) ?_
    · rcases List.mem_cons.mp hp with rfl | hp
      · exact List.mem_cons_of_mem _ List.mem_cons_self
      rcases List.mem_cons.mp hp with rfl | hp
      · exact List.mem_cons_of_mem _ (List.mem_cons_of_mem _ List.mem_cons_self)
      rcases List.mem_cons.mp hp with rfl | hp
      · exact List.mem_cons_of_mem _ (List.mem_cons_of_mem _ (List.mem_cons_of_mem _ List.mem_cons_self))
      rcases List.mem_cons.mp hp with rfl | hp
      · exact List.mem_cons_self
      · exact List.mem_cons_of_mem _ (List.mem_cons_of_mem _ (List.mem_cons_of_mem _ (List.mem_cons_of_mem _ hp)))
    · refine ⟨⟨?_, ?_, ?_⟩, off⟩
      · exact Nat.ne_of_gt (l' _ List.mem_cons_self)
      · exact Nat.ne_of_gt (l' _ (List.mem_cons_of_mem _ List.mem_cons_self))
      · exact Nat.ne_of_gt (l' _ (List.mem_cons_of_mem _ (List.mem_cons_of_mem _ List.mem_cons_self)))
    · have := lcip_ind n f hS turn fin r (i + 1) (tl' ++ [y']) (y'.e :: nw') (by omega) ?_ ?_ ?_
      · rw [List.map_append] at this; exact this
      · rw [List.map_append, hv, List.range_succ, List.map_append, List.map_cons, List.map_nil, List.map_cons, List.map_nil, show y'.v = f i from Prod.ext ha hb]
      · intro z hz
        rcases List.mem_append.mp hz with hz | hz
        · exact List.mem_cons_of_mem _ (ht z hz)
        · rw [List.mem_singleton.mp hz]; exact List.mem_cons_self
      · exact fun p hp => List.mem_cons_of_mem _ (hk p hp)
/-- a comprehension of pairs over a list -/
theorem r_lcip {elt : Expr} {x : Str} {scope : Scope} {cl : List (Str × Addr)} {Q : Value → Shared → Prop} {q : Addr} {nw : List (Addr × Obj)} {vs : List Value} {kk : Nat} (f : Nat → Int × Int)
    (hh : A.handled = none) (F : Fr h₀ L s.heap m) (N : News h₀ L s.heap nw) (hq : (q, listOf vs.toArray kk) ∈ nw) (hsz : vs.length ≤ sizeLine)
    (turn : ∀ i v (nw' : List (Addr × Obj)) ys I oI C oC D m₂ (s₁ : Shared) (E' : Value → Shared → Prop), (∃ h tk, s₁ = { s with heap := h, toks := tk }) → i < vs.length → vs.toArray[i]? = some v → (∀ p ∈ nw, p ∈ nw') → NsObj oC m₂ → m₂ x = some v → Fr h₀ L s₁.heap m → News h₀ L s₁.heap ((I, oI) :: (C, oC) :: (D, lst ys) :: nw') →
      wpAny (model prog w) A (eval elt (compEnvC scope cl C env)) (CPEnd h₀ L m ((I, oI) :: (C, oC) :: (D, lst ys) :: nw') (f i).1 (f i).2 s₁) E' s₁)
    (ret : ∀ D (tl' : List TT) (nw' : List (Addr × Obj)) h tk, tl'.map TT.v = (List.range vs.length).map f → (∀ y ∈ tl', y.e ∈ nw') → (∀ p ∈ nw, p ∈ nw') → (∀ p ∈ nw', p.1 ≠ D) → Fr h₀ L h m → News h₀ L h ((D, listOf (tl'.map TT.r).toArray (tl'.map TT.r).length) :: nw') → Q (.ref D) { s with heap := h, toks := tk }) :
    CompSrc prog w A h₀ L m env elt x scope cl (fun s₂ => FinE h₀ L m s₂ Q) (.ref q) s := by
  refine CompSrc.ledger hh F N hq (by rw [List.size_toArray]; exact hsz) fun g => ?_
  rw [List.size_toArray]
  refine lcip_ind (s := { s with heap := g }) (Fin := FinE h₀ L m { s with heap := g } Q) vs.length f (fun nw' hk => .inr ⟨_, hk _ hq, rfl, kk, rfl⟩) turn ?_ vs.length 0 [] nw rfl rfl (fun _ h => (nomatch h)) (fun _ h => h)
  intro tl' nw' hv ht hk D h tk F' N' off
  exact ret D tl' nw' h tk hv ht hk (off_ne off) F' N'
/-- whole numbers out of pairs: the turns -/
theorem lcpi_ind {elt : Expr} {x x₂ : Str} {scope : Scope} {cl : List (Str × Addr)} {S : List (Addr × Obj) → Prop} {Fin : List Value → List (Addr × Obj) → Prop} {nw : List (Addr × Obj)} (tl : List TT) (f : Int × Int → Int)
    (hS : S nw) (htl : ∀ y ∈ tl, y.e ∈ nw)
    (turn : ∀ (y : TT) ys I oI C oC D m₂ (s₁ : Shared) (E' : Value → Shared → Prop), (∃ h tk, s₁ = { s with heap := h, toks := tk }) → y ∈ tl → NsObj oC m₂ → m₂ x = some (.int y.a y.t) → m₂ x₂ = some (.int y.b y.u) → Fr h₀ L s₁.heap m → News h₀ L s₁.heap ((I, oI) :: (C, oC) :: (D, lst ys) :: nw) →
      wpAny (model prog w) A (eval elt (compEnvC scope cl C env)) (CIEnd h₀ L m ((I, oI) :: (C, oC) :: (D, lst ys) :: nw) (f y.v) s₁) E' s₁)
    (fin : ∀ ys, IntsAre ys ((tl.map TT.v).map f) → Fin ys nw) :
    ∀ (r : List TT) (i : Nat) (ys : List Value), tl.drop i = r → IntsAre ys (((tl.take i).map TT.v).map f) →
      CompRestP prog w A h₀ L m env elt x x₂ scope cl s S (fun i v => (tl.map TT.r).toArray[i]? = some v) Fin r.length i ys nw
  | [], i, ys, hd, hv => by
    refine CompRestP.zero (fin ys ?_)
    have : tl.length ≤ i := List.drop_eq_nil_iff.mp hd
    rw [List.take_of_length_le this] at hv
    exact hv
  | y :: r, i, ys, hd, hv => by
    have hi : i < tl.length := by
      rcases Nat.lt_or_ge i tl.length with h | h
      · exact h
      · rw [List.drop_eq_nil_of_le h] at hd; cases hd
    have hc := List.drop_eq_getElem_cons hi
    rw [hd] at hc
    have hget : tl[i]'hi = y := (List.cons.inj hc).1.symm
    have hdr : tl.drop (i + 1) = r := (List.cons.inj hc).2.symm
    have hyt : y ∈ tl := hget ▸ List.getElem_mem hi
    refine CompRestP.succ fun v hv' => ?_
    have ev : v = y.r := by
      simp only [List.getElem?_toArray, List.getElem?_map, List.getElem?_eq_getElem hi, hget, Option.map_some] at hv'
      exact (Option.some.inj hv').symm
    subst ev
    refine ⟨y.p, _, .int y.a y.t, .int y.b y.u, 0, rfl, htl y hyt, rfl, rfl, ?_⟩
    intro I oI C oC D m₂ h tk E' hC hx hx₂ F N off ne
    refine wpAny_mono (turn y _ I oI C oC D m₂ { s with heap := h, toks := tk } E' ⟨_, _, rfl⟩ hyt hC hx hx₂ F N) (fun z s₂ hz => ?_) fun _ _ e => e
    obtain ⟨t, h', tk', rfl, rfl, F', N'⟩ := hz
    refine CompEnd.intro F' N' nw (fun p hp => hp) off hS ?_
    refine lcpi_ind tl f hS htl turn fin r (i + 1) _ hdr ?_
    rw [List.take_add_one, List.getElem?_eq_getElem hi, hget]
    simp only [Option.toList_some, List.map_append, List.map_cons, List.map_nil]
    exact IntsAre.append hv (.cons _ _ .nil)
theorem r_lcpi {elt : Expr} {x x₂ : Str} {scope : Scope} {cl : List (Str × Addr)} {Q : Value → Shared → Prop} {q : Addr} {nw : List (Addr × Obj)} {kk : Nat} (tl : List TT) (f : Int × Int → Int)
    (hh : A.handled = none) (F : Fr h₀ L s.heap m) (N : News h₀ L s.heap nw) (hq : (q, listOf (tl.map TT.r).toArray kk) ∈ nw) (hsz : tl.length ≤ sizeLine) (htl : ∀ y ∈ tl, y.e ∈ nw)
    (turn : ∀ (y : TT) ys I oI C oC D m₂ (s₁ : Shared) (E' : Value → Shared → Prop), (∃ h tk, s₁ = { s with heap := h, toks := tk }) → y ∈ tl → NsObj oC m₂ → m₂ x = some (.int y.a y.t) → m₂ x₂ = some (.int y.b y.u) → Fr h₀ L s₁.heap m → News h₀ L s₁.heap ((I, oI) :: (C, oC) :: (D, lst ys) :: nw) →
      wpAny (model prog w) A (eval elt (compEnvC scope cl C env)) (CIEnd h₀ L m ((I, oI) :: (C, oC) :: (D, lst ys) :: nw) (f y.v) s₁) E' s₁)
    (ret : ∀ D ys h tk, IntsAre ys ((tl.map TT.v).map f) → (∀ p ∈ nw, p.1 ≠ D) → Fr h₀ L h m → News h₀ L h ((D, listOf ys.toArray ys.length) :: nw) → Q (.ref D) { s with heap := h, toks := tk }) :
    SrcLP prog w A h₀ L m env elt x x₂ scope cl (fun s₂ => FinE h₀ L m s₂ Q) (.ref q) s := by
  refine SrcLP.ledger hh F N hq (by rw [List.size_toArray, List.length_map]; exact hsz) fun g => ?_
  have e : (tl.map TT.r).toArray.size = tl.length := by rw [List.size_toArray, List.length_map]
  rw [e]
  refine lcpi_ind (s := { s with heap := g }) (Fin := FinE h₀ L m { s with heap := g } Q) tl f (Or.inr ⟨_, hq, rfl, kk, rfl⟩) htl turn ?_ tl 0 [] rfl .nil
  intro ys hy D h tk F' N' off
  exact ret D ys h tk hy (off_ne off) F' N'
theorem r_lcpiA {elt : Expr} {x x₂ y : Str} {scope : Scope} {cl : List (Str × Addr)} {Q : Flow → Shared → Prop} {q : Addr} {nw : List (Addr × Obj)} {kk : Nat} (tl : List TT) (f : Int × Int → Int)
    (hh : A.handled = none) (F : Fr h₀ L s.heap m) (N : News h₀ L s.heap nw) (hq : (q, listOf (tl.map TT.r).toArray kk) ∈ nw) (hsz : tl.length ≤ sizeLine) (htl : ∀ y ∈ tl, y.e ∈ nw)
    (turn : ∀ (y : TT) ys I oI C oC D m₂ (s₁ : Shared) (E' : Value → Shared → Prop), (∃ h tk, s₁ = { s with heap := h, toks := tk }) → y ∈ tl → NsObj oC m₂ → m₂ x = some (.int y.a y.t) → m₂ x₂ = some (.int y.b y.u) → Fr h₀ L s₁.heap m → News h₀ L s₁.heap ((I, oI) :: (C, oC) :: (D, lst ys) :: nw) →
      wpAny (model prog w) A (eval elt (compEnvC scope cl C env)) (CIEnd h₀ L m ((I, oI) :: (C, oC) :: (D, lst ys) :: nw) (f y.v) s₁) E' s₁)
    (ret : ∀ D ys h tk, IntsAre ys ((tl.map TT.v).map f) → (∀ p ∈ nw, p.1 ≠ D) → Fr h₀ L h (fun z => if z = y then some (.ref D) else m z) → News h₀ L h ((D, listOf ys.toArray ys.length) :: nw) → Q .next { s with heap := h, toks := tk }) :
    SrcLP prog w A h₀ L m env elt x x₂ scope cl (fun s₂ => FinA h₀ L m s₂ y Q) (.ref q) s := by
  refine SrcLP.ledger hh F N hq (by rw [List.size_toArray, List.length_map]; exact hsz) fun g => ?_
  have e : (tl.map TT.r).toArray.size = tl.length := by rw [List.size_toArray, List.length_map]
  rw [e]
  refine lcpi_ind (s := { s with heap := g }) (Fin := FinA h₀ L m { s with heap := g } y Q) tl f (Or.inr ⟨_, hq, rfl, kk, rfl⟩) htl turn ?_ tl 0 [] rfl .nil
  intro ys hy D h tk F' N' off
  exact ret D ys h tk hy (off_ne off) F' N'
end
end Mine
end
section
open PySem PySem.W PyProof.Rows PySem.Calls PySem.Spec
set_option maxRecDepth 100000
namespace Mine
section
variable {prog : Program} {w : World} {A : Around} {E : Value → Shared → Prop} {s : Shared} {env : Env} {h₀ : Heap} {body : List Stmt} {Q : Flow → Shared → Prop}
/-- the end of a turn of a while loop -/
def WtEnd {σ : Type} (h₀ : Heap) (L : Addr) (G : σ → Led) (R : Led) (ps : σ → List (Str × Value)) (stored : List Str) (m₀ : Str → Option Value) (P : Nat → σ → Prop) (k : Nat) (s₁ s₂ : Shared) : Prop :=
  ∃ (c' : σ) (k' : Nat) (h' : Heap) (tk : Nat) (m' : Str → Option Value) (news' : Led), k' < k ∧ s₂ = { s₁ with heap := h', toks := tk } ∧ Fr h₀ L h' m' ∧ News h₀ L h' news' ∧ (∀ p ∈ G c' ++ R, p ∈ news') ∧
    (∀ p ∈ ps c', m' p.1 = some p.2) ∧ (∀ z, (∀ p ∈ ps c', z ≠ p.1) → stored.contains z = false → m' z = m₀ z) ∧ P k' c'
def WtPost {σ : Type} (h₀ : Heap) (L : Addr) (G : σ → Led) (R : Led) (ps : σ → List (Str × Value)) (stored : List Str) (m₀ : Str → Option Value) (P : Nat → σ → Prop) (k : Nat) (s₁ : Shared) (Q : Flow → Shared → Prop) (f : Flow) (s₂ : Shared) : Prop :=
  match f with
  | .ret v => Q (.ret v) s₂
  | .brk => Q .next s₂
  | _ => WtEnd h₀ L G R ps stored m₀ P k s₁ s₂
theorem WtEnd.intro {σ : Type} {h₀ h' : Heap} {L : Addr} {G : σ → Led} {R : Led} {ps : σ → List (Str × Value)} {stored : List Str} {m₀ m' : Str → Option Value} {P : Nat → σ → Prop} {k tk : Nat} {s₁ : Shared} {news' : Led} (c' : σ) (k' : Nat)
    (F : Fr h₀ L h' m') (N : News h₀ L h' news') (hn : ∀ p ∈ G c' ++ R, p ∈ news') (hk : ∀ p ∈ ps c', m' p.1 = some p.2) (hr : ∀ z, (∀ p ∈ ps c', z ≠ p.1) → stored.contains z = false → m' z = m₀ z) (hlt : k' < k) (hp : P k' c') :
    WtEnd h₀ L G R ps stored m₀ P k s₁ { s₁ with heap := h', toks := tk } := ⟨c', k', h', tk, m', news', hlt, rfl, F, N, hn, hk, hr, hp⟩
theorem while_rest {σ : Type} {test : PySem.Expr} {m₀ : Str → Option Value} (G : σ → Led) (R : Led) (ps : σ → List (Str × Value)) (stored : List Str) (P : Nat → σ → Prop) (hE : PassesOwn (model prog w) A env E)
    (turn : ∀ (k : Nat) (c : σ) (u : Str → Option Value) (s₁ : Shared), (∃ h tk, s₁ = { s with heap := h, toks := tk }) → P k c → Fr h₀ env.locals s₁.heap (lpM ps stored u m₀ c) → News h₀ env.locals s₁.heap (G c ++ R) →
      wpAny (model prog w) A (isTrue test env (eval test env)) (fun b s₂ => WhlIf b (wpAny (model prog w) A (execs body env) (WtPost h₀ env.locals G R ps stored m₀ P k s₁ Q) E s₂) (wpAny (model prog w) A (execs [] env) Q E s₂)) E s₁) :
    ∀ (n k : Nat), k < n → ∀ (c : σ) (s₁ : Shared) (m' : Str → Option Value), (∃ h tk, s₁ = { s with heap := h, toks := tk }) → Fr h₀ env.locals s₁.heap m' → News h₀ env.locals s₁.heap (G c ++ R) →
      (∀ p ∈ ps c, m' p.1 = some p.2) → (∀ z, (∀ p ∈ ps c, z ≠ p.1) → stored.contains z = false → m' z = m₀ z) → P k c → WhlRest prog w A E env test body [] Q 0 s₁
  | 0, k, hk, _, _, _, _, _, _, _, _, _ => absurd hk (Nat.not_lt_zero k)
  | n + 1, k, hk, c, s₁, m', hs, F, N, h1, h2, hP => by
    refine whl_turn (k := 0) hE ?_
    refine wpAny_mono (turn k c m' s₁ hs hP (ksw_fr h1 h2 F) N) (fun b s₂ h₂ => ?_) fun _ _ e => e
    cases b with
    | false => exact h₂
    | true =>
      have h₃ : wpAny (model prog w) A (execs body env) (WtPost h₀ env.locals G R ps stored m₀ P k s₁ Q) E s₂ := by
        unfold WhlIf at h₂
        rw [if_pos rfl] at h₂
        exact h₂
      refine WhlIf.yes rfl (wpAny_mono h₃ (fun f s₃ h₄ => ?_) fun _ _ e => e)
      have next : WtEnd h₀ env.locals G R ps stored m₀ P k s₁ s₃ → WhlRest prog w A E env test body [] Q 0 s₃ := by
        rintro ⟨c', k', h', tk, m₅, news', hlt, rfl, F', N', hn, hk', hr, hp⟩
        obtain ⟨h₁, t₁, rfl⟩ := hs
        exact while_rest G R ps stored P hE turn n k' (by omega) c' _ m₅ ⟨_, _, rfl⟩ F' (fun p hp => N' p (hn p hp)) hk' hr hp
      cases f with
      | next => exact next h₄
      | cont => exact next h₄
      | brk => exact h₄
      | ret v => exact h₄
/-- a while loop over whatever state -/
theorem r_while {σ : Type} {test : PySem.Expr} {pos : Pos} {m₀ : Str → Option Value} (G : σ → Led) (R : Led) (ps : σ → List (Str × Value)) (stored : List Str) (P : Nat → σ → Prop) (k₀ : Nat) (c₀ : σ)
    (F : Fr h₀ env.locals s.heap m₀) (N : News h₀ env.locals s.heap (G c₀ ++ R)) (hk : ∀ p ∈ ps c₀, m₀ p.1 = some p.2) (hp : P k₀ c₀)
    (turn : ∀ (k : Nat) (c : σ) (u : Str → Option Value) (s₁ : Shared), (∃ h tk, s₁ = { s with heap := h, toks := tk }) → P k c → Fr h₀ env.locals s₁.heap (lpM ps stored u m₀ c) → News h₀ env.locals s₁.heap (G c ++ R) →
      wpAny (model prog w) A (isTrue test env (eval test env)) (fun b s₂ => WhlIf b (wpAny (model prog w) A (execs body env) (WtPost h₀ env.locals G R ps stored m₀ P k s₁ Q) E s₂) (wpAny (model prog w) A (execs [] env) Q E s₂)) E s₁)
    (hE : PassesOwn (model prog w) A env E := by passes_own) :
    wpAny (model prog w) A (exec (.While test body [] pos) env) Q E s :=
  whl_start 0 (while_rest G R ps stored P hE turn (k₀ + 1) k₀ (Nat.lt_succ_self _) c₀ s m₀ ⟨s.heap, s.toks, rfl⟩ F N hk (fun _ _ _ => rfl) hp)
end
section
variable {prog : Program} {w : World} {A : Around} {E : Value → Shared → Prop} {s : Shared}
/-- sorting a list of one thing -/
theorem sort_one {a : Addr} {v : Value} {n : Nat} {P : PySem.Fin → Shared → Prop} (ho : s.heap.get? a = some (seqObj "list" [v].toArray n))
    (h : P (.done (.ret .none)) { s with heap := sortedHeap s.heap a [v] #[v] }) : wpAny (model prog w) A (Builtin.«list.sort» ⟨[.ref a], []⟩) P E s := by
  rw [list_sort_plain]
  have ha : a < s.heap.objs.size := Heap.lt_size ho
  refine wpAny_bind (listItems_at ho rfl ?_)
  refine wpAny_bind (listUpdate_at ho rfl ?_)
  obtain ⟨e1, ho1⟩ : ∃ e1, (s.heap.update a (Obj.mapSeq fun _ => #[])).get? a = some (seqObj "list" #[] e1) := ⟨_, get?_update_seq ho (fun _ => #[])⟩
  refine wpAny_bind (seqEpoch_at ho1 rfl ?_)
  refine wpAny_bind (wpAny_newTuple ?_)
  refine wpAny_bind (wpAny_newList ?_)
  refine wpAny_holding ?_
  have ho6 : (((s.heap.update a (Obj.mapSeq fun _ => #[])).push (seqObj "tuple" [v].toArray 0)).push (seqObj "list" #[] 0)).get? a = some (seqObj "list" #[] e1) := by
    rw [Heap.get?_push_ne _ _ _ (by rw [size_push', Heap.size_update]; exact Nat.ne_of_lt (Nat.lt_succ_of_lt ha)), Heap.get?_push_ne _ _ _ (by rw [Heap.size_update]; exact Nat.ne_of_lt ha)]
    exact ho1
  show wpAny (model prog w) A _ P E { s with heap := ((s.heap.update a (Obj.mapSeq fun _ => #[])).push (seqObj "tuple" [v].toArray 0)).push (seqObj "list" #[] 0) }
  dsimp only
  have h2 : [v].toArray.size < 2 := Nat.lt_succ_self 1
  rw [if_pos h2, if_pos h2]
  refine wpAny_bind (wpAny_pure ?_)
  rw [StateT.run_pure]
  refine wpAny_bind (wpAny_pure ?_)
  dsimp only
  refine wpAny_bind (seqEpoch_at ho6 rfl ?_)
  have hout : (arrOf (SortSt.mk' general' ([v].toArray.zip [v].toArray) #[] 7 none)).map (·.2) = #[v] := by
    show Array.map (·.2) ([v].toArray.zip [v].toArray) = #[v]
    simp
  rw [hout]
  refine wpAny_bind (listUpdate_at ho6 rfl ?_)
  simp only [bne_self_eq_false, Bool.false_eq_true, if_false]
  exact wpAny_pure h
theorem sorted_one {l : Addr} {v : Value} {Q : Value → Shared → Prop} (hl : s.heap.IsList l [v].toArray)
    (h : Q (.ref (s.heap.objs.size + 1)) { s with heap := sortedAll s.heap [v] #[v] }) : wpAny (model prog w) A (call (.builtin "sorted") [.ref l]) Q E s := by
  refine Calls.call_function_entry kind_sorted plain_sorted entry_sorted (args_sorted1 _) ?_
  unfold Builtin.«sorted»
  refine wpAny_bind (m := checkCount "sorted" 1 1 _) (wpAny_pure ?_)
  refine wpAny_bind (collect_list hl ?_)
  refine wpAny_bind (wpAny_newList ?_)
  have hsz : ((s.heap.push (seqObj "list" #[] 0)).update s.heap.objs.size (Obj.mapSeq (· ++ [v].toArray))).objs.size = s.heap.objs.size + 1 := by
    rw [Heap.size_update, size_push']
  have hoL : (((s.heap.push (seqObj "list" #[] 0)).update s.heap.objs.size (Obj.mapSeq (· ++ [v].toArray))).push (seqObj "list" [v].toArray 0)).get? (s.heap.objs.size + 1) = some (seqObj "list" [v].toArray 0) := by
    rw [← hsz]; exact Heap.get?_push_size _ rfl
  show wpAny _ _ _ _ _ { s with heap := ((s.heap.push (seqObj "list" #[] 0)).update s.heap.objs.size (Obj.mapSeq (· ++ [v].toArray))).push (seqObj "list" [v].toArray 0) }
  rw [hsz]
  refine wpAny_bind (wpAny_holding (wpAny_call_entry slot_list_sort ⟨_, hoL, rfl⟩ entry_list_sort (sort_one hoL ⟨_, rfl, ?_⟩) (args_list_sort _)))
  exact wpAny_pure ⟨_, rfl, h⟩
/-- sorted() of at least one pair -/
theorem r_sorted_pairs {h₀ : Heap} {L q : Addr} {m : Str → Option Value} {nw : List (Addr × Obj)} {kk : Nat} {tl : List TT} {Q : Value → Shared → Prop} (F : Fr h₀ L s.heap m) (N : News h₀ L s.heap nw) (hq : (q, listOf (tl.map TT.r).toArray kk) ∈ nw) (htl : ∀ y ∈ tl, y.e ∈ nw) (h1 : 1 ≤ tl.length) (h64 : tl.length < 64) (hn : (tl.map fun y => y.b).Nodup)
    (h : ∀ D (tl' : List TT) c h', tl'.Perm tl → tl'.Pairwise (fun x y => lexLt x.v y.v = true) → Fr h₀ L h' m → News h₀ L h' ((D, listOf (tl'.map TT.r).toArray c) :: nw) → (∀ p ∈ nw, p.1 < D) → Q (.ref D) { s with heap := h' }) :
    wpAny (model prog w) A (call (.builtin "sorted") [.ref q]) Q E s := by
  by_cases h2 : 2 ≤ tl.length
  · exact r_sorted_tt F N hq htl h2 h64 hn h
  · match tl, h1, h2, hq, h with
    | [y], _, _, hq, h =>
      have hol : s.heap.IsList q [y.r].toArray := ⟨_, (N _ hq).1, rfl, kk, rfl⟩
      refine sorted_one hol ?_
      obtain ⟨c, hc⟩ := sortedAll_at s.heap [y.r] #[y.r]
      exact h (s.heap.objs.size + 1) [y] c _ (.refl _) (List.pairwise_singleton _ _) (F.kept fun b o e => sortedAll_old e) (News.kept_cons F N (fun b o e => sortedAll_old e) (Nat.le_succ _) hc) fun p hp => Nat.lt_succ_of_lt (Heap.lt_size (N p hp).1)
    | _ :: _ :: _, _, h2, _, _ => exact absurd (by simp) h2
end
end Mine
end
section
open PySem PySem.W PyProof.Rows PySem.Calls
namespace Mine
/-! the building of a league -/
def decrI (wins : List Int) (xs : List Int) : List Int := xs.foldl (fun w x => w.set x.toNat (w.getD x.toNat 0 - 1)) wins
theorem decrI_snoc (wins : List Int) (xs : List Int) (x : Int) : decrI wins (xs ++ [x]) = (decrI wins xs).set x.toNat ((decrI wins xs).getD x.toNat 0 - 1) := by
  unfold decrI; rw [List.foldl_append]; rfl
theorem decrI_len : ∀ (xs wins : List Int), (decrI wins xs).length = wins.length
  | [], _ => rfl
  | x :: r, wins => by
    show (decrI (wins.set x.toNat (wins.getD x.toNat 0 - 1)) r).length = _
    rw [decrI_len r, List.length_set]
def LgSorted (wins : List Int) (l : List Nat) : Prop := l.Pairwise (fun x y => lexLt (wins.getD x 0, (x : Int)) (wins.getD y 0, (y : Int)) = true)
/-- the states of the building that are reached -/
inductive LgR (row : List Int) : List Int → List Nat → List (Int × Int) → Prop
  | start : LgR row row (List.range row.length) []
  | step {wins : List Int} {left left1 : List Nat} {ts : List (Int × Int)} {FI : Int} {L5 : List Int} (h : LgR row wins left ts) (hp : left1.Perm left) (hs : LgSorted wins left1) (h0 : 0 < left.length)
      (h5 : L5 = (left1.map fun (x : Nat) => (x : Int)).dropLast) (hF : (left1.map fun (x : Nat) => (x : Int)).getLastD 0 = FI) (g0 : 0 ≤ wins.getD FI.toNat 0) (g1 : wins.getD FI.toNat 0 ≤ (L5.length : Int)) :
      LgR row (decrI wins (L5.drop (wins.getD FI.toNat 0).toNat)) left1.dropLast (ts ++ (L5.take (wins.getD FI.toNat 0).toNat).map (fun x => (FI, x)) ++ (L5.drop (wins.getD FI.toNat 0).toNat).map (fun x => (x, FI)))
/-- what the building gives back -/
def LgDone (row : List Int) (ts : List (Int × Int)) : Prop :=
  (∃ wins, LgR row wins [] ts) ∨ (ts = [] ∧ ∃ (wins : List Int) (left left1 : List Nat) (ts0 : List (Int × Int)) (FI : Int), LgR row wins left ts0 ∧ left1.Perm left ∧ LgSorted wins left1 ∧ 0 < left.length ∧
    (left1.map fun (x : Nat) => (x : Int)).getLastD 0 = FI ∧ ¬ (0 ≤ wins.getD FI.toNat 0 ∧ wins.getD FI.toNat 0 ≤ (((left1.map fun (x : Nat) => (x : Int)).dropLast).length : Int)))
/-- the state of the building -/
structure LgB (row wins : List Int) (left : List Nat) (ts : List (Int × Int)) : Prop where
  r : LgR row wins left ts
  wl : wins.length = row.length
  nd : left.Nodup
  lt : ∀ x ∈ left, x < row.length
  tl : ts.length + 8 * left.length ≤ 64
  ll : left.length ≤ row.length
structure LS where
  wv : List Value
  wk : Nat
  ll : Addr
  lv : List Value
  lk : Nat
  tl : List TT
  bk : Nat
theorem whl_split {b : Bool} {T F : Prop} (h1 : b = true → T) (h2 : b = false → F) : WhlIf b T F := by
  cases b with
  | true => exact WhlIf.yes rfl (h1 rfl)
  | false => exact WhlIf.no rfl (h2 rfl)
end Mine
namespace Mine
theorem lg_ints {us : List Value} {n : Nat} {a : Int} (h : IntsAre us (rangeKs a n)) (ha : a = 0 := by rfl) : IntsAre us ((List.range n).map fun (x : Nat) => (x : Int)) := by
  subst ha
  unfold rangeKs at h
  have e : (fun (i : Nat) => (0 : Int) + (i : Int)) = fun (i : Nat) => (i : Int) := by funext i; omega
  rw [e] at h
  exact h
theorem lg_start {row : List Int} {n : Nat} (h8 : row.length ≤ 8) (hn : n = row.length := by rfl) : LgB row row (List.range n) (([] : List TT).map TT.v) := by
  subst hn
  exact ⟨.start, rfl, List.nodup_range, fun x hx => List.mem_range.mp hx, by rw [List.length_range]; simp only [List.map_nil, List.length_nil]; omega, by rw [List.length_range]; exact Nat.le_refl _⟩
theorem LgB.next {row wins : List Int} {left left1 : List Nat} {ts : List (Int × Int)} {FI : Int} {L5 : List Int} (H : LgB row wins left ts) (h8 : row.length ≤ 8) (hp : left1.Perm left) (hs : LgSorted wins left1) (h0 : 0 < left.length)
      (h5 : L5 = (left1.map fun (x : Nat) => (x : Int)).dropLast) (hF : (left1.map fun (x : Nat) => (x : Int)).getLastD 0 = FI) (g0 : 0 ≤ wins.getD FI.toNat 0) (g1 : wins.getD FI.toNat 0 ≤ (L5.length : Int)) :
      LgB row (decrI wins (L5.drop (wins.getD FI.toNat 0).toNat)) left1.dropLast (ts ++ (L5.take (wins.getD FI.toNat 0).toNat).map (fun x => (FI, x)) ++ (L5.drop (wins.getD FI.toNat 0).toNat).map (fun x => (x, FI))) := by
  have hl := hp.length_eq
  have hd : left1.dropLast.length = left1.length - 1 := List.length_dropLast
  have e5 : L5.length = left1.length - 1 := by rw [h5, List.length_dropLast, List.length_map]
  have h1 := H.ll
  have h2 := H.tl
  refine ⟨.step H.r hp hs h0 h5 hF g0 g1, by rw [decrI_len, H.wl], (hp.nodup_iff.mpr H.nd).sublist (List.dropLast_sublist _), fun x hx => H.lt x (hp.mem_iff.mp ((List.dropLast_sublist _).subset hx)), ?_, by omega⟩
  simp only [List.length_append, List.length_map, List.length_take, List.length_drop]
  omega
theorem lg_idx {row wins : List Int} {left left1 : List Nat} {ts : List (Int × Int)} {L5 xs : List Int} {y i : Nat} (H : LgB row wins left ts) (h8 : row.length ≤ 8) (hp : left1.Perm left) (h5 : L5 = (left1.map fun (x : Nat) => (x : Int)).dropLast) (hi : i < (L5.drop y).length) :
    0 ≤ (L5.drop y).getD i 0 ∧ (L5.drop y).getD i 0 < ((decrI wins xs).length : Int) ∧ (L5.drop y).getD i 0 < 2 ^ 63 ∧ ((L5.drop y).getD i 0).toNat < (decrI wins xs).length := by
  have h1 : (L5.drop y).getD i 0 ∈ left1.map fun (x : Nat) => (x : Int) := by
    rw [List.getD_eq_getElem?_getD, List.getElem?_eq_getElem hi]
    have h2 : ∀ z ∈ L5, z ∈ left1.map fun (x : Nat) => (x : Int) := by rw [h5]; exact (List.dropLast_sublist _).subset
    exact h2 _ (List.mem_of_mem_drop (List.getElem_mem hi))
  obtain ⟨x, hx, e⟩ := List.mem_map.mp h1
  rw [← e]
  have := H.lt x (hp.mem_iff.mp hx)
  have h2 := H.wl
  rw [decrI_len, show (2 : Int) ^ 63 = 9223372036854775808 by decide]
  omega
theorem lg_first {row wins : List Int} {left left1 : List Nat} {ts : List (Int × Int)} {FI : Int} (H : LgB row wins left ts) (h8 : row.length ≤ 8) (hp : left1.Perm left) (h0 : 0 < left.length) (hF : (left1.map fun (x : Nat) => (x : Int)).getLastD 0 = FI) :
    0 ≤ FI ∧ FI.toNat < wins.length ∧ FI < 2 ^ 63 := by
  have hl := hp.length_eq
  have hne : (left1.map fun (x : Nat) => (x : Int)) ≠ [] := by
    intro e
    have := congrArg List.length e
    rw [List.length_map] at this
    simp at this
    rw [this] at hl
    simp at hl; omega
  have h1 : FI ∈ left1.map fun (x : Nat) => (x : Int) := by
    rw [← hF, List.getLastD_eq_getLast?, List.getLast?_eq_some_getLast hne]
    exact List.getLast_mem hne
  obtain ⟨x, hx, e⟩ := List.mem_map.mp h1
  rw [← e]
  have := H.lt x (hp.mem_iff.mp hx)
  have h2 := H.wl
  rw [show (2 : Int) ^ 63 = 9223372036854775808 by decide]
  omega
theorem lg_n {a b : Nat} (h : a = b) : ((a : Int) - 0).toNat = b := by omega
section
variable {prog : Program} {w : World} {A : Around} {E : Value → Shared → Prop} {s : Shared} {h₀ : Heap} {L a b : Addr} {m : Str → Option Value} {nw : List (Addr × Obj)} {xs : List Value} {ns : List Int} {k1 k2 : Nat}
theorem r_ne_nil {Q : Value → Shared → Prop} (N : News h₀ L s.heap nw) (ha : (a, listOf xs.toArray k1) ∈ nw) (hb : (b, listOf #[] k2) ∈ nw) (hi : IntsAre xs ns) (hu : A.units + 64 < cLine) (h : Q (.bool (!decide (ns = []))) s) :
    wpAny (model prog w) A (compareOp .NotEq (.ref a) (.ref b)) Q E s :=
  ke_ne_ints (ys := []) (ms := []) ⟨_, (N _ ha).1, rfl, k1, rfl⟩ ⟨_, (N _ hb).1, rfl, k2, rfl⟩ hi .nil hu h
end
theorem at_natL {vs : List Value} {xs : List Nat} {i : Nat} {v : Value} (hI : IntsAre vs (xs.map fun (x : Nat) => (x : Int))) (hv : vs.toArray[i]? = some v) : ∃ t, v = .int ((xs.getD i 0 : Nat) : Int) t ∧ i < xs.length := by
  have hv' : vs[i]? = some v := by simpa using hv
  have hi : i < vs.length := by
    rcases Nat.lt_or_ge i vs.length with h1 | h1
    · exact h1
    · rw [List.getElem?_eq_none h1] at hv'; cases hv'
  obtain ⟨t, e⟩ := nat_at hI hv' hi
  exact ⟨t, e, by rw [← ints_len hI]; exact hi⟩
theorem LgB.len8 {row wins : List Int} {left : List Nat} {ts : List (Int × Int)} (H : LgB row wins left ts) (h8 : row.length ≤ 8) : left.length ≤ 8 := by
  exact Nat.le_trans H.ll h8
theorem getD_mem' {xs : List Nat} {i : Nat} (hi : i < xs.length) : xs.getD i 0 ∈ xs := by
  rw [List.getD_eq_getElem?_getD, List.getElem?_eq_getElem hi]
  exact List.getElem_mem hi
theorem map_getD_rangeN (left : List Nat) (f : Nat → Int × Int) : (List.range left.length).map (fun i => f (left.getD i 0)) = left.map f := by
  refine List.ext_getElem (by simp) fun i h1 h2 => ?_
  simp only [List.getElem_map, List.getElem_range]
  rw [List.length_map] at h2
  rw [List.getD_eq_getElem?_getD, List.getElem?_eq_getElem h2]; rfl
/-- what the sorting of the pairs gives -/
theorem lg_sorted {wins : List Int} {left : List Nat} {n : Nat} {tl8 tl9 : List TT} (hn : n = left.length) (hv : tl8.map TT.v = (List.range n).map fun i => (wins.getD (left.getD i 0) 0, ((left.getD i 0 : Nat) : Int))) (hp : tl9.Perm tl8) (hs : tl9.Pairwise (fun x y => lexLt x.v y.v = true)) :
    ∃ left1 : List Nat, (tl9.map TT.v).map (fun q => q.2) = left1.map (fun (x : Nat) => (x : Int)) ∧ left1.Perm left ∧ LgSorted wins left1 := by
  subst hn
  rw [map_getD_rangeN left fun x => (wins.getD x 0, (x : Int))] at hv
  have h1 : (tl9.map TT.v).Perm (left.map fun x => (wins.getD x 0, (x : Int))) := hv ▸ hp.map TT.v
  have hs' : (tl9.map TT.v).Pairwise (fun x y => lexLt x y = true) := List.pairwise_map.mpr hs
  generalize tl9.map TT.v = q9 at h1 hs' ⊢
  have h2 : ∀ q ∈ q9, q = (wins.getD q.2.toNat 0, ((q.2.toNat : Nat) : Int)) := fun q hq => by
    obtain ⟨x, _, rfl⟩ := List.mem_map.mp (h1.mem_iff.mp hq)
    simp
  refine ⟨q9.map (fun q => q.2.toNat), ?_, ?_, ?_⟩
  · rw [List.map_map]
    exact List.map_congr_left fun q hq => congrArg Prod.snd (h2 q hq)
  · have := h1.map fun q : Int × Int => q.2.toNat
    rw [List.map_map] at this
    have e : ((fun q : Int × Int => q.2.toNat) ∘ fun (x : Nat) => (wins.getD x 0, (x : Int))) = id := by funext x; simp
    rw [e, List.map_id] at this
    exact this
  · unfold LgSorted
    rw [List.pairwise_map]
    refine List.Pairwise.imp_of_mem (fun {x y} hx hy h => ?_) hs'
    rw [← h2 _ hx, ← h2 _ hy]; exact h
theorem lg_vl {wins : List Int} {left : List Nat} {n : Nat} {tl8 : List TT} (hv : tl8.map TT.v = (List.range n).map fun i => (wins.getD (left.getD i 0) 0, ((left.getD i 0 : Nat) : Int))) : tl8.length = n := by
  have := congrArg List.length hv
  rw [List.length_map, List.length_map, List.length_range] at this
  exact this
theorem lg_len1 {wins : List Int} {left : List Nat} {n : Nat} {tl8 : List TT} (hv : tl8.map TT.v = (List.range n).map fun i => (wins.getD (left.getD i 0) 0, ((left.getD i 0 : Nat) : Int)))
    (hb : (!decide (left.map (fun (x : Nat) => (x : Int)) = [])) = true) (hn : n = left.length) : 1 ≤ tl8.length := by
  rw [lg_vl hv, hn]
  cases left with
  | nil => simp at hb
  | cons x r => simp
theorem lg_len64 {wins : List Int} {left : List Nat} {n : Nat} {tl8 : List TT} (hv : tl8.map TT.v = (List.range n).map fun i => (wins.getD (left.getD i 0) 0, ((left.getD i 0 : Nat) : Int))) (hn : n < 64) : tl8.length < 64 := by
  rw [lg_vl hv]; exact hn
theorem lg_nod {wins : List Int} {left : List Nat} {n : Nat} {tl8 : List TT} (hv : tl8.map TT.v = (List.range n).map fun i => (wins.getD (left.getD i 0) 0, ((left.getD i 0 : Nat) : Int))) (hn : n = left.length) (hd : left.Nodup) : (tl8.map fun y => y.b).Nodup := by
  subst hn
  rw [map_getD_rangeN left fun x => (wins.getD x 0, (x : Int))] at hv
  have e : (tl8.map fun y => y.b) = (tl8.map TT.v).map (fun q => q.2) := by rw [List.map_map]; rfl
  rw [e, hv, List.map_map]
  exact List.Pairwise.map _ (fun a b hab => by
    intro e
    exact hab (Int.ofNat.inj e)) hd
theorem lg_pos {left : List Nat} (hb : (!decide (left.map (fun (x : Nat) => (x : Int)) = [])) = true) : 0 < left.length := by
  cases left with
  | nil => simp at hb
  | cons x r => simp
theorem lg_off {D a b : Addr} {o o' : Obj} {nw : List (Addr × Obj)} (h1 : (a : Nat) ≠ D) (h2 : (b : Nat) ≠ D) (h3 : ∀ p ∈ nw, p.1 ≠ D) : ∀ p ∈ (a, o) :: (b, o') :: nw, p.1 ≠ D := by
  intro p hp
  rcases List.mem_cons.mp hp with rfl | hp
  · exact h1
  · rcases List.mem_cons.mp hp with rfl | hp
    · exact h2
    · exact h3 p hp
section
variable {prog : Program} {w : World} {A : Around} {E : Value → Shared → Prop} {s : Shared} {h₀ : Heap} {L l : Addr} {m : Str → Option Value} {nw : List (Addr × Obj)} {value slice : PySem.Expr} {vs : List Value} {ns : List Int} {k : Nat} {y : Int} {t : Tok} {Q : Value → Shared → Prop}
theorem r_upto (F : Fr h₀ L s.heap m) (N : News h₀ L s.heap nw) (hm : (l, listOf vs.toArray k) ∈ nw) (hi : IntsAre vs ns) (h0 : 0 ≤ y) (hz : vs.length ≤ sizeLine)
    (h : ∀ D ws h', Fr h₀ L h' m → News h₀ L h' ((D, listOf (List.toArray ws) 0) :: nw) → (∀ p ∈ nw, p.1 < D) → IntsAre ws (ns.take y.toNat) → Q (.ref D) { s with heap := h' })
    (hs : subscripted slice false (.ref l) (.ref s.heap.objs.size) = operate [.ref s.heap.objs.size, .ref l] (getItem (.ref l) (.ref s.heap.objs.size))) (ht : ∀ r, letTemporaryGo value (.ref l) r = pure ()) :
    wpAny (model prog w) A (subscriptTail value slice (.ref l) (.ref s.heap.objs.size)) Q E { s with heap := s.heap.push { cls := .type "slice", data := .fields #[.none, .int y t, .none] } } :=
  kmk_slice_ints F N ⟨_, (N _ hm).1, rfl, k, rfl⟩ .none (.int y t) hi (kmk_upto hi h0) rfl (fun D ws h' F' N' l1 hI _ _ => h D ws h' F' N' l1 hI) hs ht (by rw [List.size_toArray]; exact hz)
theorem r_from (F : Fr h₀ L s.heap m) (N : News h₀ L s.heap nw) (hm : (l, listOf vs.toArray k) ∈ nw) (hi : IntsAre vs ns) (h0 : 0 ≤ y) (hz : vs.length ≤ sizeLine)
    (h : ∀ D ws h', Fr h₀ L h' m → News h₀ L h' ((D, listOf (List.toArray ws) 0) :: nw) → (∀ p ∈ nw, p.1 < D) → IntsAre ws (ns.drop y.toNat) → Q (.ref D) { s with heap := h' })
    (hs : subscripted slice false (.ref l) (.ref s.heap.objs.size) = operate [.ref s.heap.objs.size, .ref l] (getItem (.ref l) (.ref s.heap.objs.size))) (ht : ∀ r, letTemporaryGo value (.ref l) r = pure ()) :
    wpAny (model prog w) A (subscriptTail value slice (.ref l) (.ref s.heap.objs.size)) Q E { s with heap := s.heap.push { cls := .type "slice", data := .fields #[.int y t, .none, .none] } } :=
  kmk_slice_ints F N ⟨_, (N _ hm).1, rfl, k, rfl⟩ (.int y t) .none hi (kmk_from hi h0) rfl (fun D ws h' F' N' l1 hI _ _ => h D ws h' F' N' l1 hI) hs ht (by rw [List.size_toArray]; exact hz)
end
theorem at_int {vs : List Value} {ns : List Int} {i : Nat} {v : Value} (hI : IntsAre vs ns) (hv : vs[i]? = some v) : ∃ t, v = .int (ns.getD i 0) t ∧ i < ns.length := by
  have hi : i < vs.length := by
    rcases Nat.lt_or_ge i vs.length with h1 | h1
    · exact h1
    · rw [List.getElem?_eq_none h1] at hv; cases hv
  rw [hI.length] at hi
  obtain ⟨t, e⟩ := ints_at hI i hi
  rw [hv] at e
  exact ⟨t, Option.some.inj e, hi⟩
/-- the ledger of the first inner loop -/
theorem lg_mem1 {W : List (Addr × Obj)} {tl : List TT} {a b c d e : Addr × Obj} {news : List (Addr × Obj)} (ha : a ∈ W) (hT : ∀ p ∈ tl.map TT.e ++ (e :: news), p ∈ W) (hb : b ∈ W) (hc : c ∈ W) (hd : d ∈ W) :
    ∀ p ∈ (a :: tl.map TT.e) ++ (b :: c :: d :: e :: news), p ∈ W := by
  intro p hp
  rcases List.mem_append.mp hp with hp | hp
  · rcases List.mem_cons.mp hp with rfl | hp
    · exact ha
    · exact hT p (List.mem_append_left _ hp)
  · rcases List.mem_cons.mp hp with rfl | hp
    · exact hb
    rcases List.mem_cons.mp hp with rfl | hp
    · exact hc
    rcases List.mem_cons.mp hp with rfl | hp
    · exact hd
    · exact hT p (List.mem_append_right _ hp)
theorem lg_end1 {W R T : List (Addr × Obj)} {tl : List TT} {x : TT} {lb : Addr} {k : Nat} (hl : (lb, listOf (tl.map TT.r ++ [x.r]).toArray k) ∈ W) (hT : ∀ p ∈ T, p ∈ W) (hTe : T = tl.map TT.e ++ R) (hx : x.e ∈ W) :
    ∀ p ∈ ((lb, listOf ((tl ++ [x]).map TT.r).toArray k) :: (tl ++ [x]).map TT.e) ++ R, p ∈ W := by
  intro p hp
  rcases List.mem_append.mp hp with hp | hp
  · rcases List.mem_cons.mp hp with rfl | hp
    · rw [List.map_append]; exact hl
    · obtain ⟨y, hy, rfl⟩ := List.mem_map.mp hp
      rcases List.mem_append.mp hy with hy | hy
      · exact hT _ (hTe ▸ List.mem_append_left _ (List.mem_map_of_mem hy))
      · rw [List.mem_singleton.mp hy]; exact hx
  · exact hT _ (hTe ▸ List.mem_append_right _ hp)
theorem lg_kind1 {tl : List TT} {x : TT} {lb : Addr} {it : Obj} {xs : Array Value} {k : Nat} (h : itKind it) : ∀ p ∈ (lb, listOf xs k) :: (tl ++ [x]).map TT.e, p.2 ≠ it := by
  intro p hp
  rcases List.mem_cons.mp hp with rfl | hp
  · exact ne_it_list h rfl
  · obtain ⟨y, _, rfl⟩ := List.mem_map.mp hp
    exact ne_it_tuple h rfl
theorem lg_step1 {ts0 : List (Int × Int)} {tl : List TT} {x : TT} {ns : List Int} {i : Nat} {f : Int → Int × Int} (h : tl.map TT.v = ts0 ++ (ns.take i).map f) (hi : i < ns.length) (hx : x.v = f (ns.getD i 0)) :
    (tl ++ [x]).map TT.v = ts0 ++ (ns.take (i + 1)).map f := by
  rw [List.map_append, h, take_snoc ns 0 hi, List.map_append, List.append_assoc]
  simp [hx]
theorem lg_news1 {h₀ h : Heap} {L : Addr} {a4 a6 a9 a8 a d e : Addr × Obj} {nw8 news : List (Addr × Obj)} {tl : List TT} (N : News h₀ L h (a4 :: a6 :: a9 :: a8 :: nw8)) (ha : a ∈ nw8) (hT : ∀ p ∈ tl.map TT.e ++ (e :: news), p ∈ nw8) (hd : d ∈ nw8) :
    News h₀ L h ((a :: tl.map TT.e) ++ (a4 :: a6 :: d :: e :: news)) := fun p hp => N p (by
  have up : ∀ q ∈ nw8, q ∈ a4 :: a6 :: a9 :: a8 :: nw8 := fun q hq => List.mem_cons_of_mem _ (List.mem_cons_of_mem _ (List.mem_cons_of_mem _ (List.mem_cons_of_mem _ hq)))
  exact lg_mem1 (up _ ha) (fun q hq => up q (hT q hq)) List.mem_cons_self (List.mem_cons_of_mem _ List.mem_cons_self) (up _ hd) p hp)
/-- names for addresses of a ledger -/
theorem news_names {h₀ h : Heap} {L a b c : Addr} {oa ob oc : Obj} {r : List (Addr × Obj)} (_ : News h₀ L h ((a, oa) :: (b, ob) :: (c, oc) :: r)) : (∃ x, x = a) ∧ ∃ y, y = c := ⟨⟨a, rfl⟩, ⟨c, rfl⟩⟩
theorem lg_apart1 {h₀ h : Heap} {L lb d4 d6 lw c : Addr} {o4 o6 ow oc ob ib : Obj} {I : Addr} {xs : List Value} {k : Nat} {tl1 : List TT} {T news nw8 : List (Addr × Obj)} (N : News h₀ L h ((I, ib) :: (lb, listOf xs.toArray k) :: T)) (hT : T = tl1.map TT.e ++ ((d4, o4) :: (d6, o6) :: (lw, ow) :: (c, oc) :: news))
    (hb : (lb, ob) ∈ nw8) (h4 : AllLt d4 nw8) (h6 : ∀ p ∈ nw8, p.1 ≠ d6) (hw : (lw : Nat) < lb) (hc : (c : Nat) < lb) (hn : AllLt lb news) : ∀ p ∈ T, p.1 ≠ lb := by
  intro p hp
  have hp' := hp
  rw [hT] at hp'
  rcases List.mem_append.mp hp' with h1 | h1
  · obtain ⟨x, _, rfl⟩ := List.mem_map.mp h1
    refine apart N (List.mem_cons_of_mem _ (List.mem_cons_of_mem _ hp)) (List.mem_cons_of_mem _ List.mem_cons_self) ?_
    intro e; exact absurd (congrArg Obj.cls e) (by intro e; exact absurd (Value.type.inj e) (by decide))
  rcases List.mem_cons.mp h1 with rfl | h1
  · exact Nat.ne_of_gt (ktn_ltOf h4 _ hb)
  rcases List.mem_cons.mp h1 with rfl | h1
  · exact (h6 _ hb).symm
  rcases List.mem_cons.mp h1 with rfl | h1
  · exact Nat.ne_of_lt hw
  rcases List.mem_cons.mp h1 with rfl | h1
  · exact Nat.ne_of_lt hc
  · exact Nat.ne_of_lt (ktn_ltOf hn p h1)
theorem news_tail {h₀ h : Heap} {L : Addr} {a b : Addr × Obj} {r : List (Addr × Obj)} (_ : News h₀ L h (a :: b :: r)) : ∃ T, T = r := ⟨r, rfl⟩
theorem lg_apart2 {h₀ h : Heap} {L x d4 d6 c : Addr} {o4 o6 oc : Obj} {xs : List Value} {k : Nat} {tl2 : List TT} {P T news : List (Addr × Obj)} (N : News h₀ L h (P ++ T)) (hT : T = tl2.map TT.e ++ ((d4, o4) :: (d6, o6) :: (c, oc) :: news))
    (hx : (x, listOf xs.toArray k) ∈ P) (h4 : (x : Nat) < d4) (h6 : x ≠ d6) (hc : (c : Nat) < x) (hn : AllLt x news) : ∀ p ∈ T, p.1 ≠ x := by
  intro p hp
  have hp' := hp
  rw [hT] at hp'
  rcases List.mem_append.mp hp' with h1 | h1
  · obtain ⟨x, _, rfl⟩ := List.mem_map.mp h1
    refine apart N (List.mem_append_right _ hp) (List.mem_append_left _ hx) ?_
    intro e; exact absurd (congrArg Obj.cls e) (by intro e; exact absurd (Value.type.inj e) (by decide))
  rcases List.mem_cons.mp h1 with rfl | h1
  · exact Nat.ne_of_gt h4
  rcases List.mem_cons.mp h1 with rfl | h1
  · exact fun e => h6 e.symm
  rcases List.mem_cons.mp h1 with rfl | h1
  · exact Nat.ne_of_lt hc
  · exact Nat.ne_of_lt (ktn_ltOf hn p h1)
theorem news_tail3 {h₀ h : Heap} {L : Addr} {a b c : Addr × Obj} {r : List (Addr × Obj)} (_ : News h₀ L h (a :: b :: c :: r)) : ∃ T, T = r := ⟨r, rfl⟩
/-- the ledger of the second inner loop -/
theorem lg_news2 {h₀ h : Heap} {L : Addr} {a b d4 d6 lw c : Addr × Obj} {news : List (Addr × Obj)} {tl : List TT} (N : News h₀ L h (a :: b :: (tl.map TT.e ++ (d4 :: d6 :: lw :: c :: news)))) :
    News h₀ L h ((b :: lw :: tl.map TT.e) ++ (a :: d6 :: c :: news)) := fun p hp => N p (by
  have up : ∀ q ∈ d4 :: d6 :: lw :: c :: news, q ∈ a :: b :: (tl.map TT.e ++ (d4 :: d6 :: lw :: c :: news)) := fun q hq => List.mem_cons_of_mem _ (List.mem_cons_of_mem _ (List.mem_append_right _ hq))
  rcases List.mem_append.mp hp with hp | hp
  · rcases List.mem_cons.mp hp with rfl | hp
    · exact List.mem_cons_of_mem _ List.mem_cons_self
    rcases List.mem_cons.mp hp with rfl | hp
    · exact up _ (List.mem_cons_of_mem _ (List.mem_cons_of_mem _ List.mem_cons_self))
    · exact List.mem_cons_of_mem _ (List.mem_cons_of_mem _ (List.mem_append_left _ hp))
  · rcases List.mem_cons.mp hp with rfl | hp
    · exact List.mem_cons_self
    rcases List.mem_cons.mp hp with rfl | hp
    · exact up _ (List.mem_cons_of_mem _ List.mem_cons_self)
    · exact up _ (List.mem_cons_of_mem _ (List.mem_cons_of_mem _ (List.mem_cons_of_mem _ hp))))
theorem lg_end2 {W R T : List (Addr × Obj)} {tl : List TT} {x : TT} {lb lw : Addr} {ow : Obj} {k : Nat} (hl : (lb, listOf (tl.map TT.r ++ [x.r]).toArray k) ∈ W) (hw : (lw, ow) ∈ W) (hT : ∀ p ∈ T, p ∈ W) (hTe : T = tl.map TT.e ++ R) (hx : x.e ∈ W) :
    ∀ p ∈ ((lb, listOf ((tl ++ [x]).map TT.r).toArray k) :: (lw, ow) :: (tl ++ [x]).map TT.e) ++ R, p ∈ W := by
  intro p hp
  rcases List.mem_append.mp hp with hp | hp
  · rcases List.mem_cons.mp hp with rfl | hp
    · rw [List.map_append]; exact hl
    rcases List.mem_cons.mp hp with rfl | hp
    · exact hw
    · obtain ⟨y, hy, rfl⟩ := List.mem_map.mp hp
      rcases List.mem_append.mp hy with hy | hy
      · exact hT _ (hTe ▸ List.mem_append_left _ (List.mem_map_of_mem hy))
      · rw [List.mem_singleton.mp hy]; exact hx
  · exact hT _ (hTe ▸ List.mem_append_right _ hp)
theorem lg_kind2 {tl : List TT} {x : TT} {lb lw : Addr} {it : Obj} {xs ys : Array Value} {k k2 : Nat} (h : itKind it) : ∀ p ∈ (lb, listOf xs k) :: (lw, listOf ys k2) :: (tl ++ [x]).map TT.e, p.2 ≠ it := by
  intro p hp
  rcases List.mem_cons.mp hp with rfl | hp
  · exact ne_it_list h rfl
  rcases List.mem_cons.mp hp with rfl | hp
  · exact ne_it_list h rfl
  · obtain ⟨y, _, rfl⟩ := List.mem_map.mp hp
    exact ne_it_tuple h rfl
theorem lg_dec {wins ns : List Int} {i : Nat} {vs : List Value} (hi : i < ns.length) (h : IntsAre vs ((decrI wins (ns.take i)).set (ns.getD i 0).toNat ((decrI wins (ns.take i)).getD (ns.getD i 0).toNat 0 - 1))) : IntsAre vs (decrI wins (ns.take (i + 1))) := by
  rw [take_snoc ns 0 hi, decrI_snoc]; exact h
/-- a list of pairs comes back, new -/
abbrev RetB (row : List Int) (news : List (Addr × Obj)) (h₀ : Heap) (L : Addr) (m : Str → Option Value) (s : Shared) (Q : Value → Shared → Prop) : Prop :=
  ∀ (p : Addr) (tl : List TT) (k : Nat) (h' : Heap) (tk' : Nat), Fr h₀ L h' m → News h₀ L h' ((p, listOf (tl.map TT.r).toArray k) :: (tl.map TT.e ++ news)) → LgDone row (tl.map TT.v) → tl.length ≤ 64 → (∀ q ∈ news, q.1 < p) → Q (.ref p) { s with heap := h', toks := tk' }
theorem lg_end3 {h₀ h : Heap} {L : Addr} {b w d4 d6 c : Addr × Obj} {news : List (Addr × Obj)} {tl : List TT} (_ : News h₀ L h (b :: w :: (tl.map TT.e ++ (d4 :: d6 :: c :: news)))) :
    ∀ p ∈ (b :: d6 :: w :: tl.map TT.e) ++ (c :: news), p ∈ b :: w :: (tl.map TT.e ++ (d4 :: d6 :: c :: news)) := fun p hp => by
  rcases List.mem_append.mp hp with hp | hp
  · rcases List.mem_cons.mp hp with rfl | hp
    · exact List.mem_cons_self
    rcases List.mem_cons.mp hp with rfl | hp
    · exact List.mem_cons_of_mem _ (List.mem_cons_of_mem _ (List.mem_append_right _ (List.mem_cons_of_mem _ List.mem_cons_self)))
    rcases List.mem_cons.mp hp with rfl | hp
    · exact List.mem_cons_of_mem _ List.mem_cons_self
    · exact List.mem_cons_of_mem _ (List.mem_cons_of_mem _ (List.mem_append_left _ hp))
  · exact List.mem_cons_of_mem _ (List.mem_cons_of_mem _ (List.mem_append_right _ (List.mem_cons_of_mem _ (List.mem_cons_of_mem _ hp))))
theorem lg_size {tl1 : List TT} {ts : List (Int × Int)} {xs : List Int} {f : Int → Int × Int} {L5 : List Int} {i y : Nat} (h : tl1.map TT.v = ts ++ (xs.take i).map f) (hx : xs = L5.take y ∨ xs = L5.drop y) (ht : ts.length ≤ 1000) (hn : L5.length ≤ 1000) : (tl1.map TT.r).toArray.size ≤ 16777216 := by
  have h1 := congrArg List.length h
  simp only [List.length_map, List.length_append, List.length_take] at h1
  rw [List.size_toArray, List.length_map]
  have h2 : xs.length ≤ 1000 := by
    rcases hx with rfl | rfl
    · rw [List.length_take]; omega
    · rw [List.length_drop]; omega
  omega
theorem LgB.done {row wins : List Int} {left : List Nat} {ts : List (Int × Int)} (H : LgB row wins left ts) (hb : (!decide (left.map (fun (x : Nat) => (x : Int)) = [])) = false) : LgDone row ts := by
  cases left with
  | nil => exact .inl ⟨_, H.r⟩
  | cons x r => simp at hb
theorem LgB.bad {row wins : List Int} {left left1 : List Nat} {ts : List (Int × Int)} {FI : Int} {L5 : List Int} {n : Nat} (H : LgB row wins left ts) (hp : left1.Perm left) (hs : LgSorted wins left1) (h0 : 0 < left.length) (hF : (left1.map fun (x : Nat) => (x : Int)).getLastD 0 = FI)
    (h5 : L5 = (left1.map fun (x : Nat) => (x : Int)).dropLast) (hn : n = L5.length) (hb : ¬ (0 ≤ wins.getD FI.toNat 0 ∧ wins.getD FI.toNat 0 ≤ (n : Int))) : LgDone row (([] : List TT).map TT.v) := by
  refine .inr ⟨rfl, wins, left, left1, ts, FI, H.r, hp, hs, h0, hF, ?_⟩
  rw [← h5, ← hn]; exact hb
theorem sub_cons {α : Type} {a : α} {r W : List α} (h : a ∈ W) (h2 : ∀ p ∈ r, p ∈ W) : ∀ p ∈ a :: r, p ∈ W := fun p hp => by
  rcases List.mem_cons.mp hp with rfl | hp
  · exact h
  · exact h2 p hp
theorem sub_app {α : Type} {r t W : List α} (h : ∀ p ∈ r, p ∈ W) (h2 : ∀ p ∈ t, p ∈ W) : ∀ p ∈ r ++ t, p ∈ W := fun p hp => by
  rcases List.mem_append.mp hp with hp | hp
  · exact h p hp
  · exact h2 p hp
end Mine
end
section
open PySem PySem.W PyProof.Rows
set_option maxRecDepth 100000
namespace Mine
local macro_rules | `(tactic| walk_at "binaryOp LShift int int") => `(tactic| (k_here; with_reducible refine r_lsh ?_ ?_))
local macro_rules | `(tactic| walk_at "inplaceOp LShift int int") => `(tactic| (k_here; with_reducible refine r_ilsh ?_ ?_))
local macro_rules | `(tactic| walk_at "binaryOp Mult int int") => `(tactic| (k_here; with_reducible refine r_mul ?_ ?_))
local macro_rules | `(tactic| walk_at "binaryOp FloorDiv int int") => `(tactic| (k_here; with_reducible refine r_fdiv ?_ ?_))
local macro_rules | `(tactic| walk_at "binaryOp Mod int int") => `(tactic| (k_here; with_reducible refine r_mod ?_ ?_))
local macro_rules | `(tactic| walk_at "binaryOp RShift int int") => `(tactic| (k_here; with_reducible refine r_rsh ?_ ?_))
local macro_rules | `(tactic| walk_at "inplaceOp RShift int int") => `(tactic| (k_here; with_reducible refine r_irsh ?_ ?_))
local macro_rules | `(tactic| walk_at "call builtin:divmod") => `(tactic| (k_here; k_dflt (refine' r_divmod ?k1 ?k2 ?_ ?_; (case k1 => k_asm); (case k2 => k_asm)); intro p9 h9 F9 N9 l9; (try k_lt l9)))
local macro_rules | `(tactic| walk_at "call builtin:list.append") => `(tactic| (k_here; k_dflt (refine' r_append ?k1 ?k2 ?k3 ?_ ?_; (case k1 => k_asm); (case k2 => k_asm); (case k3 => k_upd)); intro h' F' N'; (try k_sweep)))
local macro_rules | `(tactic| walk_at "call ref") => `(tactic| (k_here; k_extra "mycall"))

local macro_rules | `(tactic| walk_at "exec For Name Name cons nil") => `(tactic| (k_here; k_dflt (refine For_G ?_ ?hs; (case hs => intro _; rfl))))
local macro_rules | `(tactic| walk_at "exec For Name Call cons nil") => `(tactic| (k_here; k_dflt (refine For_G ?_ ?hs; (case hs => intro _; rfl))))
local macro_rules | `(tactic| walk_at "exec For Name Subscript cons nil") => `(tactic| (k_here; k_dflt (refine For_G ?_ ?hs; (case hs => intro _; rfl))))
local macro_rules | `(tactic| walk_at "exec For Name BinOp cons nil") => `(tactic| (k_here; k_dflt (refine For_G ?_ ?hs; (case hs => intro _; rfl))))
local macro_rules | `(tactic| walk_at "exec For Tuple Name cons nil") => `(tactic| (k_here; k_dflt (refine For_G ?_ ?hs; (case hs => intro _; rfl))))
local macro_rules | `(tactic| walk_at "pyIter ref") => `(tactic| (k_here; first | k_extra "pyIter ref" | refine Ob.out ?_))
local macro_rules | `(tactic| walk_at "LtPost") => `(tactic| (dsimp only [LtPost]))
local macro_rules | `(tactic| walk_at "LtEnd") => `(tactic| (k_extra "ltend"))
local macro_rules | `(tactic| k_all) => `(tactic| assumption)
local macro_rules | `(tactic| k_ne) => `(tactic| (refine neN ?_; assumption))

local macro_rules | `(tactic| walk_at "binaryOp Add ref ref") => `(tactic| (k_here; k_dflt (refine' r_addl ?k1 ?k2 ?k3 ?k4 ?_ ?_; (case k1 => k_asm); (case k2 => k_asm); (case k3 => kcj_m); (case k4 => kcj_m)); intro D9 h9 F9 N9 l9; (try k_lt l9)))

local macro_rules | `(tactic| walk_at "assign Tuple") => `(tactic| (k_here; k_dflt (refine' r_unpair rfl ?k1 ?k2 ?k3 ?_; (case k1 => k_asm); (case k2 => k_asm); (case k3 => kcj_m)); intro h' F' N'))
local macro_rules | `(tactic| walk_at "eval Name") => `(tactic| (k_here; (with_reducible show wpAny _ _ (eval (Expr.Name _ _) (compEnvC _ _ _ _)) _ _ _); k_dflt (refine' lcf_cell ?N ?c ?m ?d ?_ ?a ?b; (case a => rfl); (case b => rfl); (case N => k_asm); (case c => rfl); (case m => kcj_m); (case d => assumption); k_whole)))
local macro_rules | `(tactic| walk_at "eval ListComp") => `(tactic| (k_here; (with_reducible show wpAny _ _ (eval (Expr.ListComp _ [⟨Expr.Tuple _ _ _, _, _, _⟩] _ _) _) _ _ _); k_dflt (refine LCp.ListComp_P (F₀ := by k_asm) (by with_unfolding_all rfl) (by decide) (by rfl) (by decide) (by rfl) (by rfl) (by decide) ?_)))
local macro_rules | `(tactic| walk_at "eval ListComp") => `(tactic| (k_here; (with_reducible show wpAny _ _ (eval (Expr.ListComp _ [⟨Expr.Name _ _, _, _, _⟩] _ _) _) _ _ _); k_dflt (refine LCg.ListComp_U (F₀ := by k_asm) (by with_unfolding_all rfl) (by decide) (by rfl) (by decide) (by rfl) ?_)))
local macro_rules | `(tactic| walk_at "eval ListComp") => `(tactic| (k_here; (with_reducible show wpAny _ _ (eval (Expr.ListComp _ [⟨Expr.Name _ _, _, [_], _⟩] _ _) _) _ _ _); k_dflt (refine LCt.ListComp_T (F₀ := by k_asm) (by with_unfolding_all rfl) (by decide) (by rfl) (by decide) (by rfl) ?_)))
local macro_rules | `(tactic| walk_at "CompSrcT") => `(tactic| (k_extra "compsrct"))
local macro_rules | `(tactic| walk_at "CTEnd") => `(tactic| (k_dflt (refine' CTEnd.intro ?e1 ?e2 ?e3 ?_; (case e1 => k_asm); (case e2 => k_asm); (case e3 => kcj_in))))
local macro_rules | `(tactic| walk_at "CompSrc") => `(tactic| (k_extra "compsrc"))
local macro_rules | `(tactic| walk_at "CIEnd") => `(tactic| (k_dflt (refine' CIEnd.intro ?e1 ?e2 ?e3 ?_; (case e1 => k_asm); (case e2 => k_asm); (case e3 => kcj_in))))
local macro_rules | `(tactic| walk_at "SrcLP") => `(tactic| (k_extra "srclp"))
local macro_rules | `(tactic| walk_at "CPEnd") => `(tactic| (k_dflt (refine' CPEnd.intro ?e1 ?e2 ?e3 ?_ ?_; (case e1 => k_asm); (case e2 => k_asm); (case e3 => exact ktn_ltOf (by assumption)))))

local macro_rules | `(tactic| walk_at "call type:set nil nil") => `(tactic| (k_here; k_dflt (refine r_setnew (by k_asm) (by k_asm) ?_); intro d' h' F' N' l1; have lSet := l1; (try k_lt l1)))
local macro_rules | `(tactic| walk_at "call builtin:sorted") => `(tactic| (k_here; k_extra "sorted"))

local macro_rules | `(tactic| walk_at "call type:list") => `(tactic| (k_here; k_dflt (first
  | ((refine' kup_listOf ?lF ?lN ?lb rfl ?_ ?lz; (case lF => k_asm); (case lN => k_asm); (case lb => kcj_m); (case lz => k_extra "lsize")); intro D9 c9 h9 F9 N9 l9; (try k_lt l9))
  | ((rename IsRange _ _ _ _ _ _ _ _ => rgX); (refine' kll_range rfl ?lF ?lN rgX ?ls ?ln ?lz ?_; (case lF => k_asm); (case lN => k_asm); (case ls => exact small_one (by omega) (by omega) (by omega) (by omega)); (case ln => exact rangeSize_nat _ _); (case lz => k_extra "lrsize")); k_extra "lrange"))))
local macro_rules | `(tactic| walk_at "compareOp NotEq ref ref") => `(tactic| (k_here; first | k_dflt (refine' r_ne_nil ?zN ?za ?zb ?zi ?zu ?_; (case zN => k_asm); (case za => kcj_m); (case zb => kcj_m); (case zi => assumption); (case zu => cb_units)) | refine Ob.out ?_))
local macro_rules | `(tactic| walk_at "exec While Compare cons nil") => `(tactic| (k_here; first | k_extra "while" | refine Ob.out ?_))
local macro_rules | `(tactic| walk_at "exec Assign cons ListComp") => `(tactic| (k_here; (with_reducible show wpAny _ _ (exec (Stmt.Assign [PySem.Expr.Name _ _] (PySem.Expr.ListComp _ [⟨PySem.Expr.Tuple _ _ _, _, _, _⟩] _ _) _) _) _ _ _); first | k_dflt (refine LCp.Assign_ListComp_P (F₀ := by k_asm) (by rfl) (by with_unfolding_all rfl) (by with_unfolding_all rfl) (by decide) (by rfl) (by decide) (by rfl) (by rfl) (by decide) (by rfl) (by rfl) ?_) | refine Ob.out ?_))
local macro_rules | `(tactic| walk_at "call builtin:list.pop") => `(tactic| (k_here; first | k_extra "pop" | refine Ob.out ?_))
local macro_rules | `(tactic| walk_at "eval Name") => `(tactic| (k_here; (with_reducible show wpAny _ _ (eval (PySem.Expr.Name _ _) (envOfC _ _ _ _ _)) _ _ _); k_dflt (refine' nameX_C ?xN ?xc ?xm ?xd ?_ ?xa ?xb; (case xa => rfl); (case xb => rfl); (case xN => k_asm); (case xc => rfl); (case xm => kcj_m); (case xd => assumption); k_whole)))
local macro_rules | `(tactic| walk_at "subscriptTail Name Slice ref ref") => `(tactic| (k_here; first
  | (k_dflt (refine' r_upto ?gF ?gN ?gm ?gi ?g0 ?gz ?_ ?gs ?gt; (case gF => k_asm); (case gN => k_asm); (case gm => kcj_m); (case gi => k_extra "slicei"); (case g0 => k_extra "slice0"); (case gz => k_extra "slicez"); (case gs => with_unfolding_all rfl); (case gt => kmk_pure)); k_extra "slicek")
  | (k_dflt (refine' r_from ?gF ?gN ?gm ?gi ?g0 ?gz ?_ ?gs ?gt; (case gF => k_asm); (case gN => k_asm); (case gm => kcj_m); (case gi => k_extra "slicei"); (case g0 => k_extra "slice0"); (case gz => k_extra "slicez"); (case gs => with_unfolding_all rfl); (case gt => kmk_pure)); k_extra "slicek")
  | refine Ob.out ?_))
local macro_rules | `(tactic| walk_at "WtPost") => `(tactic| (dsimp only [WtPost]))
local macro_rules | `(tactic| walk_at "WtEnd") => `(tactic| (k_extra "wtend"))

local macro_rules | `(tactic| walk_at "subscriptTail Name Name ref int") => `(tactic| (k_here; k_dflt (refine' r_item ?k1 ?k2 ?k3 ?_ ?_ ?_; (case k1 => k_asm); (case k2 => kcj_m); (case k3 => assumption)); intro t9))
local macro_rules | `(tactic| walk_at "subscriptTail Name Constant ref int") => `(tactic| (k_here; k_dflt (refine' r_item ?k1 ?k2 ?k3 ?_ ?_ ?_; (case k1 => k_asm); (case k2 => kcj_m); (case k3 => assumption)); intro t9))
local macro_rules | `(tactic| walk_at "call builtin:len") => `(tactic| (k_here; k_dflt (refine' r_len ?k1 ?k2 ?_ ?_; (case k1 => k_asm); (case k2 => kcj_m))))

local macro_rules | `(tactic| walk_at "setItem ref int") => `(tactic| (k_here; k_dflt (refine' ksa_set ?k1 ?k2 ?k3 ?k4 ?k5 ?k6 ?k7 ?_; (case k1 => k_asm); (case k2 => k_asm); (case k3 => k_upd); (case k4 => assumption); (case k5 => assumption); (case k6 => assumption); (case k7 => assumption)); intro h' F' N' hi' hl' hs'; (try k_sweep)))
local macro_rules | `(tactic| walk_at "getItem ref int") => `(tactic| (k_here; k_dflt (refine' ksa_get ?k1 ?k2 ?k3 ?k4 ?k5 ?k6 ?_; (case k1 => k_asm); (case k2 => kcj_m); (case k3 => assumption); (case k4 => assumption); (case k5 => assumption); (case k6 => assumption)); intro _))
local macro_rules | `(tactic| walk_at "WhlIf") => `(tactic| (k_extra "whlif"))
set_option maxHeartbeats 8000000 in
theorem c_league (w : World) (mean : ExcName → Option Value) (mg mb : Str → Option Value) (news : List (Addr × Obj)) (lr : Addr) (rv : List Value) (rk : Nat) (row : List Int)
   (hlr : (lr, listOf rv.toArray rk) ∈ news) (hri : IntsAre rv row) (hr8 : row.length ≤ 8) :
   Cl w mean mg mb 89 12 news [.ref lr] (RetB row news) := by
  unfold Cl; k_fill
  intro dp un gd cn cs a9 ccd cl outer A₀ base h₀ L m s Q E hB hF hX hN hTop hk hdp hun hret
  k_with_none
  have hrl := hri.length
  k_with "lsize" => exact due_sz (by show rv.length ≤ 1000; omega)
  k_with "lrsize" => (show (_ : Nat) ≤ 2 ^ 24; rw [lg_n rfl]; exact Nat.le_trans hr8 (by decide))
  k_with "lrange" => (intro D9 us9 c9 h9 tk9 F9 N9 l9 hRk; (try k_lt l9))
  k_with "while" => k_dflt (
    (rename News _ _ _ _ => lN'); (obtain ⟨⟨lb, hlb⟩, ⟨lw, hlw⟩⟩ := news_names lN'); subst hlb; subst hlw
    (rename Fr _ _ _ _ => lF'); (rename News _ _ _ _ => lN')
    refine' r_while (σ := LS) (fun c => (lb, listOf (c.tl.map TT.r).toArray c.bk) :: (c.ll, listOf c.lv.toArray c.lk) :: (lw, listOf c.wv.toArray c.wk) :: c.tl.map TT.e) ((L' + 1, _) :: news) (fun c => [(Str.ofString "left", .ref c.ll), (Str.ofString "beaten", .ref lb)]) [Str.ofString "first", Str.ofString "who"]
      (fun k c => k = c.lv.length ∧ ∃ (wins : List Int) (left : List Nat), IntsAre c.wv wins ∧ IntsAre c.lv (left.map fun (x : Nat) => (x : Int)) ∧ LgB row wins left (c.tl.map TT.v)) us9.length ⟨_, _, _, _, _, [], _⟩ lF' lN' ?lk ?lp ?_
    (case lk => kst_all)
    (case lp => exact ⟨rfl, row, _, (show IntsAre rv row by assumption), lg_ints hRk, lg_start hr8 (lg_n rfl)⟩)
    (iterate 2 (try (rename (_ = Data.cell (bindC _ _ _ _)) => dX; clear dX)))
    (try clear lF' lN')
    (rename (_ ∧ lw < lb ∧ L' + 1 < lb ∧ AllLt lb news) => lLb); (rename (L' + 1 < lw ∧ AllLt lw news) => lLw)
    rintro kW ⟨wv, wk, ll, lv, lk, tl, bk⟩ u sW hsW ⟨hk, wins, left, hw, hl, hI⟩ F' N'; (try dsimp only [List.cons_append, List.nil_append, kstB, lpM] at N' F' hw hl hI hk); have hll : lv.length = left.length := ints_len hl; have hl8 := hI.len8 hr8; have hwl := hI.wl)
  k_with "whlif" => (refine whl_split (fun hb9 => ?_) (fun hb9 => ?_))
  k_with "compsrc" => k_dflt (
    refine' r_lcip (fun i => (wins.getD (left.getD i 0) 0, ((left.getD i 0 : Nat) : Int))) rfl ?cF ?cN ?cq ?cz ?_ ?_
    (case cF => k_asm); (case cN => k_asm); (case cq => kcj_m); (case cz => exact due_sz (by omega))
    rotate_left
    intro D8 tl8 nw8 h8 tk8 hv8 ht8 hk8 ho8 F' N'
    have hm1 := hk8 (_, listOf (tl.map TT.r).toArray bk) (by kcj_m)
    have hm3 := hk8 (_, listOf wv.toArray wk) (by kcj_m)
    have hmc := hk8 (L' + 1, _) (by kcj_m)
    have hmT : ∀ p ∈ tl.map TT.e ++ ((L' + 1, _) :: news), p ∈ nw8 := fun p hp => hk8 p (List.mem_cons_of_mem _ (List.mem_cons_of_mem _ (List.mem_cons_of_mem _ (List.mem_cons_of_mem _ hp))))
    rotate_left
    rintro i7 v7 nw7 ys7 I7 oI7 C7 oC7 D7 m7 s7 E7 hs7 hi7 hv7 hk7 hC7 hx7 F' N'
    obtain ⟨t7, rfl, hi7'⟩ := at_natL hl hv7
    have hlt7 := hI.lt _ (getD_mem' hi7')
    have hcl := hk7 (L' + 1, _) (by kcj_m)
    have hcw := hk7 (_, listOf wv.toArray wk) (by kcj_m))
  k_with "sorted" => k_dflt (
    refine' r_sorted_pairs (tl := tl8) ?sF ?sN ?sq ?st ?s1 ?s64 ?sn ?_
    (case sF => k_asm); (case sN => k_asm); (case sq => kcj_m)
    (case st => (intro y hy; repeat (first | exact ht8 y hy | apply List.mem_cons_of_mem)))
    (case s1 => exact lg_len1 hv8 hb9 hll)
    (case s64 => exact lg_len64 hv8 (by omega))
    (case sn => exact lg_nod hv8 hll hI.nd)
    intro D9 tl9 c9 h9 hp9 hs9 F' N' l9; (try k_lt l9))
  k_with "srclp" => k_dflt (
    refine' r_lcpiA tl9 (fun q => q.2) rfl ?pF ?pN ?pq ?pz ?pt ?_ ?_
    (case pF => k_asm); (case pN => k_asm); (case pq => kcj_m); (case pz => exact due_sz (by rw [hp9.length_eq]; exact Nat.le_of_lt (Nat.lt_trans (lg_len64 hv8 (by omega)) (by decide))))
    (case pt => (intro y hy; have hy' := hp9.mem_iff.mp hy; repeat (first | exact ht8 y hy' | apply List.mem_cons_of_mem)))
    rotate_left
    intro D6 ys6 h6 tk6 hys6 ho6 F' N'
    obtain ⟨left1, he1, hp1, hs1⟩ := lg_sorted hll hv8 hp9 hs9
    rw [he1] at hys6
    have q1 := neN (ho6 _ List.mem_cons_self)
    have q2 := neN (ho6 _ (List.mem_cons_of_mem _ List.mem_cons_self))
    have q3 : ∀ p ∈ nw8, p.1 ≠ D6 := fun p hp => ho6 p (List.mem_cons_of_mem _ (List.mem_cons_of_mem _ hp))
    (try dsimp only at q1 q2)
    have hl1 := hp1.length_eq
    have hp0 : 0 < ys6.length := by rw [ints_len hys6, hl1]; exact lg_pos hb9
    rotate_left
    rintro y7 ys7 I7 oI7 C7 oC7 D7 m7 s7 E7 hs7 hy7 hC7 hx7 hx7' F' N')
  k_with "slicei" => exact hys5
  k_with "slice0" => assumption
  k_with "slicez" => exact due_sz (by rw [List.length_dropLast, ints_len hys6, hl1]; omega)
  k_with "slicek" => (intro D4 ws4 h4 F' N' l4 hI4; (try k_lt l4))
  k_with "pyIter ref" => (
    (rename News _ _ _ _ => lN8); replace lN8 := lg_news1 lN8 hm1 hmT hm3
    k_dflt (
    (rename Fr _ _ _ _ => lF'); (rename News _ _ _ _ => lN')
    refine' lt_listL (target := PySem.Expr.Name (Str.ofString "who") _) (σ := List TT × Nat) (fun c => (lb, listOf (c.1.map TT.r).toArray c.2) :: c.1.map TT.e) ((D4, listOf (List.toArray ws4) 0) :: (D6, listOf ys6.dropLast.toArray _) :: (lw, listOf wv.toArray wk) :: (L' + 1, _) :: news) (fun c => []) [Str.ofString "who"] (fun i c => c.1.map TT.v = tl.map TT.v ++ ((L5.take (wins.getD FI.toNat 0).toNat).take i).map fun x => (FI, x)) (tl, bk) rfl ?ll lF' (lN') ?lk (by simp) ?_ ?_
    (case ll => exact List.mem_cons_self)
    (case lk => first | exact List.forall_mem_nil _ | kst_all)
    all_goals (try clear lF' lN')
    rotate_left
    rintro ⟨tl1, bk1⟩ uA hA tkA hPA F' N'; (try dsimp only [List.cons_append, List.nil_append, kstB, lpM] at N' hPA F'); rw [List.take_of_length_le (Nat.le_of_eq hI4.length.symm)] at hPA
    rotate_left
    rintro ⟨tl1, bk1⟩ iA vA uA IA itA sA hsA hiA hvA hneA hikA hPA F' N'; (try dsimp only [List.cons_append, List.nil_append, kstB, lpM] at N' hneA hPA F'); obtain ⟨tA, eA, hiA'⟩ := at_int hI4 hvA; subst eA; obtain ⟨T, hTe⟩ := news_tail N'; rw [← hTe] at N' hneA; have n6 := lg_apart1 N' hTe hm1 l4.2.2.2 q3 lLb.2.1 lLb.2.2.1 lLb.2.2.2; have n7 := neN (hneA _ List.mem_cons_self); (try dsimp only at n7)))
  k_with "ltend" => k_dflt (
    (rename News _ _ _ _ => nE'); (try simp only [List.push_toArray] at nE')
    refine' LtEnd.intro (σ := List TT × Nat) ⟨tl1 ++ [⟨_, FI, tP, _, tA⟩], bk1 + 1⟩ ?e1 nE' ?e3 ?e4 ?e5 ?e6 ?e7 ?e8
    (case e1 => k_asm)
    (case e3 => (refine lg_end1 ?b1 ?b2 hTe ?b3; (case b1 => kcj_m); (case b2 => (intro p hp; repeat (first | exact hp | apply List.mem_cons_of_mem))); (case b3 => kcj_m)))
    (case e4 => kcj_m)
    (case e5 => exact lg_kind1 hikA)
    (case e6 => kst_all)
    (case e7 => exact same_of (Str.ofString "who") (by kst_same) (.inr rfl))
    (case e8 => exact lg_step1 hPA hiA' rfl))
  k_with "pyIter ref" => (
    (rename News _ _ _ _ => lN8); replace lN8 := lg_news2 lN8
    k_dflt (
    (rename Fr _ _ _ _ => lF'); (rename News _ _ _ _ => lN')
    refine' lt_listL (target := PySem.Expr.Name (Str.ofString "who") _) (σ := List TT × Nat × List Value) (fun c => (lb, listOf (c.1.map TT.r).toArray c.2.1) :: (lw, listOf c.2.2.toArray wk) :: c.1.map TT.e) ((D4, listOf (List.toArray ws4) 0) :: (D6, listOf ys6.dropLast.toArray _) :: (L' + 1, _) :: news) (fun c => []) [Str.ofString "who"] (fun i c => c.1.map TT.v = tl1.map TT.v ++ ((L5.drop (wins.getD FI.toNat 0).toNat).take i).map (fun x => (x, FI)) ∧ IntsAre c.2.2 (decrI wins ((L5.drop (wins.getD FI.toNat 0).toNat).take i))) (tl1, bk1, wv) rfl ?ll lF' (lN') ?lk ⟨by simp, hw⟩ ?_ ?_
    (case ll => exact List.mem_cons_self)
    (case lk => first | exact List.forall_mem_nil _ | kst_all)
    all_goals (try clear lF' lN')
    rotate_left
    rintro ⟨tl2, bk2, wv2⟩ uB hB tkB hPB F' N'; (try dsimp only [List.cons_append, List.nil_append, kstB, lpM] at N' hPB F'); rw [List.take_of_length_le (Nat.le_of_eq hI4.length.symm)] at hPB
    rotate_left
    rintro ⟨tl2, bk2, wv2⟩ iB vB uB IB itB sB hsB hiB hvB hneB hikB hPB F' N'; (try dsimp only [List.cons_append, List.nil_append, kstB, lpM] at N' hneB hPB F'); obtain ⟨tB, eB, hiB'⟩ := at_int hI4 hvB; subst eB; obtain ⟨T, hTe⟩ := news_tail3 N'; rw [← hTe] at N' hneB; have n6 := lg_apart2 (P := [_, _, _]) N' hTe (List.mem_cons_of_mem _ List.mem_cons_self) l4.1 (q3 _ hm1) lLb.2.2.1 lLb.2.2.2; have n8 := lg_apart2 (P := [_, _, _]) N' hTe (List.mem_cons_of_mem _ (List.mem_cons_of_mem _ List.mem_cons_self)) (ktn_ltOf l4.2 _ (List.mem_append_right _ (List.mem_cons_of_mem _ (List.mem_cons_of_mem _ List.mem_cons_self)))) (q3 _ hm3) lLw.1 lLw.2; have n7 := neN (hneB _ List.mem_cons_self); have n9 := neN (hneB _ (List.mem_cons_of_mem _ List.mem_cons_self)); (try dsimp only at n7 n9); have n10 : (lw : Nat) ≠ lb := Nat.ne_of_lt lLb.2.1; have hcB : (L' + 1, _) ∈ T := hTe ▸ List.mem_append_right _ (List.mem_cons_of_mem _ (List.mem_cons_of_mem _ List.mem_cons_self)); have hwB := hPB.2; obtain ⟨hr0, hr1, hr2, hr3⟩ := lg_idx (y := (wins.getD FI.toNat 0).toNat) (xs := (L5.drop (wins.getD FI.toNat 0).toNat).take iB) hI hr8 hp1 hL5 hiB'))
  k_with "ltend" => k_dflt (
    (rename News _ _ _ _ => nE'); (try simp only [List.push_toArray] at nE')
    refine' LtEnd.intro (σ := List TT × Nat × List Value) ⟨tl2 ++ [⟨_, _, tB, FI, tP⟩], bk2 + 1, _⟩ ?e1 nE' ?e3 ?e4 ?e5 ?e6 ?e7 ?e8
    (case e1 => k_asm)
    (case e3 => (refine lg_end2 ?b1 ?b0 ?b2 hTe ?b3; (case b1 => kcj_m); (case b0 => kcj_m); (case b2 => (intro p hp; repeat (first | exact hp | apply List.mem_cons_of_mem))); (case b3 => kcj_m)))
    (case e4 => kcj_m)
    (case e5 => exact lg_kind2 hikB)
    (case e6 => kst_all)
    (case e7 => exact same_of (Str.ofString "who") (by kst_same) (.inr rfl))
    (case e8 => exact ⟨lg_step1 hPB.1 hiB' rfl, lg_dec hiB' (by assumption)⟩))
  k_with "wtend" => k_dflt (
    (rename News _ _ _ _ => nE')
    refine' WtEnd.intro (σ := LS) ⟨wv2, wk, D6, ys6.dropLast, _, tl2, bk2⟩ ys6.dropLast.length ?e1 nE' ?e3 ?e4 ?e5 ?e6 ?e7
    (case e1 => k_asm)
    (case e3 => exact lg_end3 nE')
    (case e4 => kst_all)
    (case e5 => exact same_of (Str.ofString "left") (by kst_same) (.inl ⟨_, List.mem_cons_self⟩))
    (case e6 => (rw [hk, hll, ← hl1, ← ints_len hys6, List.length_dropLast]; omega))
    (case e7 => exact ⟨rfl, _, left1.dropLast, hPB.2, (by rw [List.map_dropLast, ← hL5]; exact hys5), (by rw [hPB.1, hPA]; exact hI.next hr8 hp1 hs1 (lg_pos hb9) hL5 hFI (by assumption) (by rw [← hys5.length]; assumption))⟩))
  k_with "pop" => k_dflt (
    refine' kpa_pop ?oF ?oN ?oU hys6 hp0 ?oz ?_
    (case oF => k_asm); (case oN => k_asm); (case oU => exact Upd.head (fun p hp => lg_off q1 q2 q3 p hp)); (case oz => exact due_sz (by rw [ints_len hys6, hl1]; omega))
    intro hP tP F' N' hys5
    obtain ⟨L5, hL5⟩ : ∃ L5, L5 = (left1.map (fun (x : Nat) => (x : Int))).dropLast := ⟨_, rfl⟩
    rw [← hL5] at hys5
    generalize hFI : (left1.map (fun (x : Nat) => (x : Int))).getLastD 0 = FI)
  refine wpAny_call ?_
  k_dflt (refine' code_defC ?k1 ?k2 ?k3 ?k4 ?k5 ?kA ?kF ?kK ?k6 ?k7 ?k8 ?k9 ?kB ?kD ?_ ?c2 ?c3 ?c4; (case kA => exact rfl); (case kF => exact rfl); (case kK => assumption); (case k1 => k_asm); (case k2 => k_asm); (case k3 => k_asm); (case k4 => k_asm); (case k5 => k_asm); (case k6 => k_is); (case k7 => k_is); (case k8 => ktr_room); (case k9 => exact BindsTo.of_eq rfl); (case kB => exact rfl); (case kD => decide +kernel); (case c2 => exact rfl); (case c3 => exact rfl); (case c4 => exact rfl); k_whole; intro g' L' h' tk' cells' FG' F' N' Y' B' X' T' l1; (try k_lt l1); k_cells Y'; (try simp only [List.cons_append, List.nil_append] at N'); (try dsimp only); (try k_lift B'); (try k_fold))
  have hnc : ∀ p ∈ news, p.1 ≠ L' + 1 := fun p hp => Nat.ne_of_lt (Nat.lt_succ_of_lt (l1 p hp))
  k_steps
  all_goals first
    | ((with_reducible show Ob (0 ≤ ((left.getD i7 0 : Nat) : Int) ∧ _)); exact (by omega : 0 ≤ ((left.getD i7 0 : Nat) : Int) ∧ (((left.getD i7 0 : Nat) : Int)).toNat < wins.length))
    | (show _ < (2 : Int) ^ 63; rw [show (2 : Int) ^ 63 = 9223372036854775808 by decide]; omega)
    | ((with_reducible show Ob (y7.b = _)); show y7.b = y7.v.snd; rfl)
    | exact lg_size hPA (.inl rfl) (by have := hI.tl; omega) (by rw [← hys5.length, List.length_dropLast, ints_len hys6]; omega)
    | exact lg_size (hPB.1.trans (by rw [hPA])) (.inr rfl) (by have h1 := hI.tl; have h5 : L5.length ≤ 8 := (by rw [← hys5.length, List.length_dropLast, ints_len hys6]; omega); simp only [List.length_append, List.length_map, List.length_take] at h1 ⊢; omega) (by rw [← hys5.length, List.length_dropLast, ints_len hys6]; omega)
    | ((with_reducible show Ob (0 ≤ FI ∧ _)); have hf := lg_first hI hr8 hp1 (lg_pos hb9) hFI; exact (⟨hf.1, hf.2.1⟩ : _ ∧ _))
    | ((with_reducible show Ob (FI < _)); have hf := lg_first hI hr8 hp1 (lg_pos hb9) hFI; exact hf.2.2)
    | (show _ < (2 : Int) ^ 63; rw [List.length_dropLast, ints_len hys6, show (2 : Int) ^ 63 = 9223372036854775808 by decide]; omega)
    | (obtain ⟨_, _, rfl⟩ := hsW; (rename (_ ∧ _ ∧ _ ∧ AllLt _ nw8) => lZ); have hmn : ∀ p ∈ news, p ∈ nw8 := (fun p hp => hmT p (List.mem_append_right _ (List.mem_cons_of_mem _ hp)));
       refine' hret _ [] _ _ _ ?e1 (cb_drop ?e2 ?e3) ?e4 ?e5 ?e6; (case e1 => k_asm); (case e2 => k_asm); (case e3 => (refine sub_cons (by kcj_m) (fun p hp => ?_); repeat (first | exact hmn p hp | apply List.mem_cons_of_mem))); (case e4 => (exact hI.bad hp1 hs1 (lg_pos hb9) hFI hL5 hys5.length (fun hh => absurd hh.1 (by assumption)))); (case e5 => exact Nat.zero_le _); (case e6 => exact (fun q hq => ktn_ltOf lZ.2.2.2 q (hmn q hq))))
    | (obtain ⟨_, _, rfl⟩ := hsW; (rename (_ ∧ _ ∧ _ ∧ AllLt _ nw8) => lZ); have hmn : ∀ p ∈ news, p ∈ nw8 := (fun p hp => hmT p (List.mem_append_right _ (List.mem_cons_of_mem _ hp)));
       refine' hret _ [] _ _ _ ?e1 (cb_drop ?e2 ?e3) ?e4 ?e5 ?e6; (case e1 => k_asm); (case e2 => k_asm); (case e3 => (refine sub_cons (by kcj_m) (fun p hp => ?_); repeat (first | exact hmn p hp | apply List.mem_cons_of_mem))); (case e4 => (exact hI.bad hp1 hs1 (lg_pos hb9) hFI hL5 hys5.length (fun hh => absurd hh.2 (by assumption)))); (case e5 => exact Nat.zero_le _); (case e6 => exact (fun q hq => ktn_ltOf lZ.2.2.2 q (hmn q hq))))
    | (obtain ⟨_, _, rfl⟩ := hsW;
       refine' hret _ tl _ _ _ ?e1 (cb_drop ?e2 ?e3) ?e4 ?e5 ?e6; (case e1 => k_asm); (case e2 => k_asm); (case e3 => (refine sub_cons (by kcj_m) (sub_app (fun p hp => ?_) (fun p hp => ?_)); all_goals (repeat (first | exact List.mem_append_left _ hp | exact List.mem_append_right _ (List.mem_cons_of_mem _ hp) | apply List.mem_cons_of_mem)))); (case e4 => (exact hI.done hb9)); (case e5 => (have := hI.tl; rw [List.length_map] at this; omega)); (case e6 => exact ktn_ltOf lLb.2.2.2))
    | skip
end Mine
end
section
open PySem PySem.W PyProof.Rows PySem.Calls PyProof.V PySem.Spec
open PyProof.Rows.LCg (NsObj lst Off3 Off1 SrcAt CompEnd CompRest FinE FinA CompSrc)
set_option maxRecDepth 100000
namespace Mine
/-! rules for the law's own body -/
section
variable {prog : Program} {w : World} {A : Around} {E : Value → Shared → Prop} {s : Shared} {h₀ : Heap} {L l : Addr} {m : Str → Option Value} {nw : List (Addr × Obj)} {vs : List Value} {ns ms : List Int} {k : Nat} {Q : Value → Shared → Prop}
theorem r_sum (hh : A.handled = none) (F : Fr h₀ L s.heap m) (N : News h₀ L s.heap nw) (hq : (l, listOf vs.toArray k) ∈ nw) (hi : IntsAre vs ns)
    (h : ∀ h' tk t', Fr h₀ L h' m → News h₀ L h' nw → Q (.int ns.sum t') { s with heap := h', toks := tk }) :
    wpAny (model prog w) A (call (.builtin "sum") [.ref l]) Q E s := sumK hh F N ⟨_, (N _ hq).1, rfl, k, rfl⟩ hi h
theorem r_sorted_ints (F : Fr h₀ L s.heap m) (N : News h₀ L s.heap nw) (hq : (l, listOf vs.toArray k) ∈ nw) (hi : IntsAre vs ns) (h64 : ns.length < 64)
    (h : ∀ D vs' ns' c h', Fr h₀ L h' m → News h₀ L h' ((D, listOf vs'.toArray c) :: nw) → (∀ q ∈ nw, q.1 < D) → IntsAre vs' ns' → ns'.Perm ns → ns'.Pairwise (· ≤ ·) → Q (.ref D) { s with heap := h' }) :
    wpAny (model prog w) A (call (.builtin "sorted") [.ref l]) Q E s :=
  kso_sorted F N ⟨_, (N _ hq).1, rfl, k, rfl⟩ hi h64 fun D vs' ns' c h' F' N' l' i' _ p' o' _ => h D vs' ns' c h' F' N' l' i' p' o'
theorem r_slice {value slice : PySem.Expr} {vl vu : Value} {lo hi : Option Int} (F : Fr h₀ L s.heap m) (N : News h₀ L s.heap nw) (hq : (l, listOf vs.toArray k) ∈ nw) (pl : IsPart vl lo) (pu : IsPart vu hi) (hi' : IntsAre vs ns) (hm : IntsAre (slicePick vs.toArray lo hi none).toList ms) (hz : ns.length ≤ sizeLine)
    (h : ∀ D ws h', Fr h₀ L h' m → News h₀ L h' ((D, listOf (List.toArray ws) 0) :: nw) → (∀ p ∈ nw, p.1 < D) → IntsAre ws ms → Q (.ref D) { s with heap := h' })
    (hs : subscripted slice false (.ref l) (.ref s.heap.objs.size) = operate [.ref s.heap.objs.size, .ref l] (getItem (.ref l) (.ref s.heap.objs.size))) (ht : ∀ r, letTemporaryGo value (.ref l) r = pure ()) :
    wpAny (model prog w) A (subscriptTail value slice (.ref l) (.ref s.heap.objs.size)) Q E { s with heap := s.heap.push { cls := .type "slice", data := .fields #[vl, vu, .none] } } :=
  kmk_slice_ints F N ⟨_, (N _ hq).1, rfl, k, rfl⟩ pl pu hi' hm rfl (fun D ws h' F' N' l1 hI _ _ => h D ws h' F' N' l1 hI) hs ht (by rw [List.size_toArray, hi'.length]; exact hz)
/-- two to a whole number -/
theorem r_pow2 {n : Int} {t u : Tok} (h : Q (.int (2 ^ n.toNat) s.toks) { s with toks := s.toks + 1 }) (ho : Ob (0 ≤ n ∧ n ≤ 100000)) :
    wpAny (model prog w) A (binaryOp .Pow (.int 2 t) (.int n u)) Q E s := pow_int_small ho.1 (by have := ho.2; omega) (by decide) h
/-- where two ways of a conditional list meet: a list of one number -/
def JoinEnd (h₀ : Heap) (L : Addr) (m : Str → Option Value) (nw : List (Addr × Obj)) (ok : Int → Prop) (s₁ : Shared) (y : Value) (s₂ : Shared) : Prop :=
  ∃ (D : Addr) (x : Int) (t : Tok) (k : Nat) (h' : Heap) (tk : Nat), y = .ref D ∧ s₂ = { s₁ with heap := h', toks := tk } ∧ Fr h₀ L h' m ∧ News h₀ L h' ((D, listOf [Value.int x t].toArray k) :: nw) ∧ ok x
theorem JoinEnd.intro {ok : Int → Prop} {s₁ : Shared} {D : Addr} {h' : Heap} {tk : Nat} {ws : List Value} {k : Nat} {ms : List Int} {nw' : List (Addr × Obj)} (F : Fr h₀ L h' m) (N : News h₀ L h' nw') (hD : (D, listOf ws.toArray k) ∈ nw') (hs : ∀ p ∈ nw, p ∈ nw') (hi : IntsAre ws ms) (h1 : ms.length = 1) (ho : Ob (ok (ms.getD 0 0))) :
    JoinEnd h₀ L m nw ok s₁ (.ref D) { s₁ with heap := h', toks := tk } := by
  match ms, h1, ws, hi with
  | [x], _, _, .cons _ t .nil =>
    refine ⟨D, x, t, k, h', tk, rfl, rfl, F, fun p hp => ?_, ho⟩
    rcases List.mem_cons.mp hp with rfl | hp
    · exact N _ hD
    · exact N p (hs p hp)
theorem r_join {test body orelse : PySem.Expr} {pos : Pos} {env : Env} (ok : Int → Prop) (_F : Fr h₀ L s.heap m) (_N : News h₀ L s.heap nw)
    (h : wpAny (model prog w) A (isTrue test env (eval test env)) (fun c s₂ => if c then wpAny (model prog w) A (eval body env) (JoinEnd h₀ L m nw ok s) E s₂ else wpAny (model prog w) A (eval orelse env) (JoinEnd h₀ L m nw ok s) E s₂) E s)
    (h2 : ∀ D x t k h' tk, Fr h₀ L h' m → News h₀ L h' ((D, listOf [Value.int x t].toArray k) :: nw) → ok x → Q (.ref D) { s with heap := h', toks := tk }) :
    wpAny (model prog w) A (eval (.IfExp test body orelse pos) env) Q E s :=
  wpAny_mono (IfExp_ h) (fun _ _ ⟨D, x, t, k, h', tk, e1, e2, F', N', o'⟩ => e1 ▸ e2 ▸ h2 D x t k h' tk F' N' o') fun _ _ e => e
/-- an assignment of a comprehension of whole numbers over a list -/
theorem r_lci_listA {env : Env} {elt : PySem.Expr} {x y : Str} {scope : Scope} {cl : List (Str × Addr)} {Q : Flow → Shared → Prop} {q : Addr} {kk : Nat} (f : Nat → Int)
    (hh : A.handled = none) (F : Fr h₀ L s.heap m) (N : News h₀ L s.heap nw) (hq : (q, listOf vs.toArray kk) ∈ nw) (hsz : vs.length ≤ sizeLine)
    (turn : ∀ i v ys I oI C oC D m₂ (s₁ : Shared) (E' : Value → Shared → Prop), (∃ h tk, s₁ = { s with heap := h, toks := tk }) → i < vs.length → vs.toArray[i]? = some v → NsObj oC m₂ → m₂ x = some v → Fr h₀ L s₁.heap m → News h₀ L s₁.heap ((I, oI) :: (C, oC) :: (D, lst ys) :: nw) →
      wpAny (model prog w) A (eval elt (compEnvC scope cl C env)) (CIEnd h₀ L m ((I, oI) :: (C, oC) :: (D, lst ys) :: nw) (f i) s₁) E' s₁)
    (ret : ∀ D ys h tk, IntsAre ys ((List.range vs.length).map f) → (∀ p ∈ nw, p.1 ≠ D) → Fr h₀ L h (fun z => if z = y then some (.ref D) else m z) → News h₀ L h ((D, listOf ys.toArray ys.length) :: nw) → Q .next { s with heap := h, toks := tk }) :
    CompSrc prog w A h₀ L m env elt x scope cl (fun s₂ => FinA h₀ L m s₂ y Q) (.ref q) s := by
  refine CompSrc.ledger hh F N hq (by rw [List.size_toArray]; exact hsz) fun g => ?_
  rw [List.size_toArray]
  refine lci_ind (s := { s with heap := g }) (Fin := FinA h₀ L m { s with heap := g } y Q) vs.length f (.inr ⟨_, hq, rfl, kk, rfl⟩) turn ?_ vs.length 0 [] rfl .nil
  intro ys hy D h tk F' N' off
  exact ret D ys h tk hy (off_ne off) F' N'
end
theorem apart_cell {h₀ h : Heap} {L : Addr} {T : List (Addr × Obj)} (N : News h₀ L h T) {a b : Addr} {o : Obj} {xs : Array Value} {k : Nat} {v : Option Value} (h1 : (a, listOf xs k) ∈ T) (h2 : (b, o) ∈ T) (hd : o.data = .cell v) : (a : Nat) ≠ b :=
  apart N h1 h2 (cell_ne_list hd)
end Mine
end
section
open PySem PySem.W PyProof.Rows
namespace Mine
/-! rounds on slots -/
/-- and, xor, sums and differences that split at a bit -/
theorem andS {N a b c d : Nat} (ha : a < 2 ^ N) (hc : c < 2 ^ N) : (a + 2 ^ N * b) &&& (c + 2 ^ N * d) = (a &&& c) + 2 ^ N * (b &&& d) := by
  refine Nat.eq_of_testBit_eq fun j => ?_
  have h1 : a &&& c < 2 ^ N := Nat.lt_of_le_of_lt Nat.and_le_left ha
  rw [Nat.add_comm a, Nat.add_comm c, Nat.add_comm (a &&& c), Nat.testBit_and, Nat.testBit_two_pow_mul_add _ ha, Nat.testBit_two_pow_mul_add _ hc, Nat.testBit_two_pow_mul_add _ h1]
  split <;> rw [Nat.testBit_and]
theorem xorS {N a b c d : Nat} (ha : a < 2 ^ N) (hc : c < 2 ^ N) : (a + 2 ^ N * b) ^^^ (c + 2 ^ N * d) = (a ^^^ c) + 2 ^ N * (b ^^^ d) := by
  refine Nat.eq_of_testBit_eq fun j => ?_
  have h1 : a ^^^ c < 2 ^ N := Nat.xor_lt_two_pow ha hc
  rw [Nat.add_comm a, Nat.add_comm c, Nat.add_comm (a ^^^ c), Nat.testBit_xor, Nat.testBit_two_pow_mul_add _ ha, Nat.testBit_two_pow_mul_add _ hc, Nat.testBit_two_pow_mul_add _ h1]
  split <;> rw [Nat.testBit_xor]
/-- what lies above a mask does not count -/
theorem and_low {M x y f : Nat} (hf : f < 2 ^ M) : (x + 2 ^ M * y) &&& f = x &&& f := by
  have h0 : f = f + 2 ^ M * 0 := by omega
  have hx : x + 2 ^ M * y = x % 2 ^ M + 2 ^ M * (x / 2 ^ M + y) := by
    have := Nat.mod_add_div x (2 ^ M)
    rw [Nat.mul_add]; omega
  have hx2 : x = x % 2 ^ M + 2 ^ M * (x / 2 ^ M) := (Nat.mod_add_div x (2 ^ M)).symm
  have hm : x % 2 ^ M < 2 ^ M := Nat.mod_lt _ (Nat.two_pow_pos M)
  have e1 : (x + 2 ^ M * y) &&& f = (x % 2 ^ M &&& f) + 2 ^ M * ((x / 2 ^ M + y) &&& 0) := by
    conv => lhs; rw [hx, h0]
    exact andS hm hf
  have e2 : x &&& f = (x % 2 ^ M &&& f) + 2 ^ M * ((x / 2 ^ M) &&& 0) := by
    conv => lhs; rw [hx2, h0]
    exact andS hm hf
  rw [e1, e2, Nat.and_zero, Nat.and_zero]
section
variable {w N l0 l' a b : Nat}
/-- the parts of a round, each with its split -/
def fN (w L : Nat) : Nat := L * 2 ^ (w - 1) - L
theorem fN_le (w L : Nat) : fN w L ≤ L * 2 ^ (w - 1) := Nat.sub_le _ _
theorem f_split : fN w (l0 + 2 ^ N * l') = fN w l0 + 2 ^ N * fN w l' := by
  unfold fN
  have h1 : l0 ≤ l0 * 2 ^ (w - 1) := Nat.le_mul_of_pos_right _ (Nat.two_pow_pos _)
  have h2 : l' ≤ l' * 2 ^ (w - 1) := Nat.le_mul_of_pos_right _ (Nat.two_pow_pos _)
  rw [Nat.add_mul, Nat.mul_assoc, Nat.mul_sub]
  have h3 : 2 ^ N * l' ≤ 2 ^ N * (l' * 2 ^ (w - 1)) := Nat.mul_le_mul_left _ h2
  omega
/-- what a block must be like -/
structure Blk (w N l0 a : Nat) : Prop where
  w1 : 1 ≤ w
  wN : w ≤ N
  l : l0 * 2 ^ (w - 1) < 2 ^ (N - w)
  a : a < 2 ^ N
theorem Blk.l2 (H : Blk w N l0 a) : l0 * 2 ^ (w - 1) < 2 ^ N := Nat.lt_of_lt_of_le H.l (Nat.pow_le_pow_right (by decide) (Nat.sub_le _ _))
theorem Blk.f (H : Blk w N l0 a) : fN w l0 < 2 ^ N := Nat.lt_of_le_of_lt (fN_le _ _) H.l2
theorem low_split (H : Blk w N l0 a) : (a + 2 ^ N * b) &&& fN w (l0 + 2 ^ N * l') = (a &&& fN w l0) + 2 ^ N * (b &&& fN w l') := by
  rw [f_split, andS H.a H.f]
theorem pow_sub_mul {w N : Nat} (h : w ≤ N) : 2 ^ N = 2 ^ w * 2 ^ (N - w) := by rw [← Nat.pow_add]; congr 1; omega
theorem high_split (H : Blk w N l0 a) : ((a + 2 ^ N * b) / 2 ^ w) &&& fN w (l0 + 2 ^ N * l') = ((a / 2 ^ w) &&& fN w l0) + 2 ^ N * ((b / 2 ^ w) &&& fN w l') := by
  have e : (a + 2 ^ N * b) / 2 ^ w = (a / 2 ^ w + 2 ^ (N - w) * (b % 2 ^ w)) + 2 ^ N * (b / 2 ^ w) := by
    have h1 : a + 2 ^ N * b = a + 2 ^ w * (2 ^ (N - w) * b) := by rw [pow_sub_mul H.wN, Nat.mul_assoc]
    rw [h1, Nat.add_mul_div_left _ _ (Nat.two_pow_pos w)]
    have h2 := Nat.mod_add_div b (2 ^ w)
    have h3 : 2 ^ (N - w) * b = 2 ^ (N - w) * (b % 2 ^ w) + 2 ^ N * (b / 2 ^ w) := by
      conv => lhs; rw [← h2]
      rw [Nat.mul_add, pow_sub_mul H.wN, ← Nat.mul_assoc, Nat.mul_comm (2 ^ (N - w)) (2 ^ w)]
    omega
  have ha : a / 2 ^ w < 2 ^ (N - w) := by
    refine Nat.div_lt_of_lt_mul ?_
    rw [← pow_sub_mul H.wN]; exact H.a
  have hb : a / 2 ^ w + 2 ^ (N - w) * (b % 2 ^ w) < 2 ^ N := by
    have h1 : b % 2 ^ w < 2 ^ w := Nat.mod_lt _ (Nat.two_pow_pos w)
    have h2 : 2 ^ (N - w) * (b % 2 ^ w + 1) ≤ 2 ^ (N - w) * 2 ^ w := Nat.mul_le_mul_left _ h1
    rw [Nat.mul_comm (2 ^ (N - w)) (2 ^ w), ← pow_sub_mul H.wN] at h2
    rw [Nat.mul_add] at h2
    omega
  rw [e, f_split, andS hb H.f, and_low (Nat.lt_of_le_of_lt (fN_le _ _) H.l)]
theorem told_eq (w L W : Nat) : toldN w L W = ((((W / 2 ^ w) &&& fN w L) + L * 2 ^ (w - 1)) - (W &&& fN w L)) &&& (L * 2 ^ (w - 1)) := rfl
theorem change_eq (w L W : Nat) : changeN w L W = ((W &&& fN w L) ^^^ ((W / 2 ^ w) &&& fN w L)) &&& (toldN w L W - toldN w L W / 2 ^ (w - 1)) := rfl
/-- the room of the difference: below the block's end -/
theorem told_split (H : Blk w N l0 a) (hr : ((a / 2 ^ w) &&& fN w l0) + l0 * 2 ^ (w - 1) - (a &&& fN w l0) < 2 ^ N) : toldN w (l0 + 2 ^ N * l') (a + 2 ^ N * b) = toldN w l0 a + 2 ^ N * toldN w l' b := by
  rw [told_eq, told_eq, told_eq, low_split H, high_split H, Nat.add_mul, Nat.mul_assoc]
  have h1 : a &&& fN w l0 ≤ l0 * 2 ^ (w - 1) := Nat.le_trans Nat.and_le_right (fN_le _ _)
  have h2 : b &&& fN w l' ≤ l' * 2 ^ (w - 1) := Nat.le_trans Nat.and_le_right (fN_le _ _)
  rw [← andS hr H.l2]
  congr 1
  rw [Nat.mul_sub, Nat.mul_add]
  have h3 : 2 ^ N * (b &&& fN w l') ≤ 2 ^ N * (l' * 2 ^ (w - 1)) := Nat.mul_le_mul_left _ h2
  omega
/-- what is told is a multiple of the mark -/
theorem and_mul (x L k : Nat) : x &&& (L * 2 ^ k) = 2 ^ k * ((x / 2 ^ k) &&& L) := by
  refine Nat.eq_of_testBit_eq fun j => ?_
  rw [Nat.testBit_and, Nat.mul_comm L, Nat.testBit_two_pow_mul, Nat.testBit_two_pow_mul, Nat.testBit_and, Nat.testBit_div_two_pow]
  by_cases h : k ≤ j
  · simp only [h, decide_true, Bool.true_and, Nat.sub_add_cancel h]
  · simp only [h, decide_false, Bool.false_and, Bool.and_false]
theorem told_mul (w L W : Nat) : ∃ t, toldN w L W = 2 ^ (w - 1) * t ∧ toldN w L W / 2 ^ (w - 1) = t := by
  refine ⟨_, told_eq w L W ▸ and_mul _ _ _, ?_⟩
  rw [told_eq, and_mul, Nat.mul_div_cancel_left _ (Nat.two_pow_pos _)]
theorem change_split (H : Blk w N l0 a) (hr : ((a / 2 ^ w) &&& fN w l0) + l0 * 2 ^ (w - 1) - (a &&& fN w l0) < 2 ^ N) : changeN w (l0 + 2 ^ N * l') (a + 2 ^ N * b) = changeN w l0 a + 2 ^ N * changeN w l' b := by
  rw [change_eq, change_eq, change_eq, told_split H hr, low_split H, high_split H]
  have h1 : a &&& fN w l0 < 2 ^ N := Nat.lt_of_le_of_lt Nat.and_le_right H.f
  have h2 : (a / 2 ^ w) &&& fN w l0 < 2 ^ N := Nat.lt_of_le_of_lt Nat.and_le_right H.f
  rw [xorS h1 h2]
  obtain ⟨t0, e0, d0⟩ := told_mul w l0 a
  obtain ⟨t1, e1, d1⟩ := told_mul w l' b
  have hl : toldN w l0 a < 2 ^ N := Nat.lt_of_le_of_lt Nat.and_le_right H.l2
  have hd : (toldN w l0 a + 2 ^ N * toldN w l' b) / 2 ^ (w - 1) = t0 + 2 ^ N * t1 := by
    rw [e0, e1, ← Nat.mul_assoc, Nat.mul_comm (2 ^ N), Nat.mul_assoc, ← Nat.mul_add, Nat.mul_div_cancel_left _ (Nat.two_pow_pos _)]
  rw [hd, d0, d1]
  have g0 : t0 ≤ toldN w l0 a := by rw [e0]; exact Nat.le_mul_of_pos_left _ (Nat.two_pow_pos _)
  have g1 : t1 ≤ toldN w l' b := by rw [e1]; exact Nat.le_mul_of_pos_left _ (Nat.two_pow_pos _)
  have e : toldN w l0 a + 2 ^ N * toldN w l' b - (t0 + 2 ^ N * t1) = (toldN w l0 a - t0) + 2 ^ N * (toldN w l' b - t1) := by
    rw [Nat.mul_sub]
    have := Nat.mul_le_mul_left (2 ^ N) g1
    omega
  rw [e, andS (Nat.xor_lt_two_pow h1 h2) (by omega)]
theorem step_split (H : Blk w N l0 a) (hr : ((a / 2 ^ w) &&& fN w l0) + l0 * 2 ^ (w - 1) - (a &&& fN w l0) < 2 ^ N) : stepW w (l0 + 2 ^ N * l') (a + 2 ^ N * b) = stepW w l0 a + 2 ^ N * stepW w l' b := by
  unfold stepW
  rw [change_split H hr]
  have hc : changeN w l0 a < 2 ^ (N - w) := by
    refine Nat.lt_of_le_of_lt ?_ H.l
    exact Nat.le_trans Nat.and_le_right (Nat.le_trans (Nat.sub_le _ _) Nat.and_le_right)
  have hc1 : changeN w l0 a < 2 ^ N := Nat.lt_of_lt_of_le hc (Nat.pow_le_pow_right (by decide) (Nat.sub_le _ _))
  have hc2 : changeN w l0 a * 2 ^ w < 2 ^ N := by
    rw [pow_sub_mul H.wN, Nat.mul_comm (2 ^ w)]
    exact Nat.mul_lt_mul_of_pos_right hc (Nat.two_pow_pos w)
  rw [Nat.add_mul, Nat.mul_assoc, xorS hc1 hc2, xorS H.a (Nat.xor_lt_two_pow hc1 hc2)]
end
end Mine
end
section
open PySem PySem.W PyProof.Rows
namespace Mine
/-! slots, the lowest first -/
def valN (w : Nat) : List Nat → Nat
  | [] => 0
  | x :: r => x + 2 ^ w * valN w r
def evenR : List Nat → List Nat
  | x :: y :: r => (if x ≤ y then y else x) :: (if x ≤ y then x else y) :: evenR r
  | r => r
def oddR : List Nat → List Nat
  | x :: r => x :: evenR r
  | [] => []
def roundR (i : Nat) (xs : List Nat) : List Nat := if i % 2 = 0 then evenR xs else oddR xs
def roundsR (xs : List Nat) : Nat → List Nat
  | 0 => xs
  | i + 1 => roundR i (roundsR xs i)
theorem evenR_len : ∀ xs : List Nat, (evenR xs).length = xs.length
  | [] => rfl
  | [_] => rfl
  | _ :: _ :: r => by simp only [evenR, List.length_cons, evenR_len r]
theorem oddR_len : ∀ xs : List Nat, (oddR xs).length = xs.length
  | [] => rfl
  | _ :: r => by simp only [oddR, List.length_cons, evenR_len r]
theorem evenR_perm : ∀ xs : List Nat, (evenR xs).Perm xs
  | [] => .refl _
  | [_] => .refl _
  | x :: y :: r => by
    simp only [evenR]
    by_cases h : x ≤ y
    · rw [if_pos h, if_pos h]
      exact (List.Perm.swap x y _).trans (((evenR_perm r).cons y).cons x)
    · rw [if_neg h, if_neg h]
      exact ((evenR_perm r).cons y).cons x
theorem oddR_perm : ∀ xs : List Nat, (oddR xs).Perm xs
  | [] => .refl _
  | x :: r => (evenR_perm r).cons x
theorem roundR_perm (i : Nat) (xs : List Nat) : (roundR i xs).Perm xs := by
  unfold roundR; split
  · exact evenR_perm xs
  · exact oddR_perm xs
theorem roundsR_perm (xs : List Nat) : ∀ i, (roundsR xs i).Perm xs
  | 0 => .refl _
  | i + 1 => (roundR_perm i _).trans (roundsR_perm xs i)
theorem and_mask {x k : Nat} (h : x < 2 ^ k) : x &&& (2 ^ k - 1) = x := by
  rw [Nat.and_two_pow_sub_one_eq_mod, Nat.mod_eq_of_lt h]
theorem xor_self_left (x y : Nat) : x ^^^ (x ^^^ y) = y := by rw [← Nat.xor_assoc, Nat.xor_self, Nat.zero_xor]
theorem xor_self_right (x y : Nat) : y ^^^ (x ^^^ y) = x := by rw [Nat.xor_comm x y, xor_self_left]
section
variable {w x y : Nat}
theorem step_pair (hw : 2 ≤ w) (hx : x < 2 ^ (w - 1)) (hy : y < 2 ^ (w - 1)) :
    (((x + 2 ^ w * y) / 2 ^ w &&& fN w 1) + 1 * 2 ^ (w - 1) - ((x + 2 ^ w * y) &&& fN w 1) < 2 ^ (2 * w)) ∧ stepW w 1 (x + 2 ^ w * y) = (if x ≤ y then y else x) + 2 ^ w * (if x ≤ y then x else y) := by
  have hp : 2 ^ w = 2 ^ (w - 1) * 2 := by rw [← Nat.pow_succ]; congr 1; omega
  have h0 := Nat.two_pow_pos (w - 1)
  have hxw : x < 2 ^ w := by omega
  have hyw : y < 2 ^ w := by omega
  have hf : fN w 1 = 2 ^ (w - 1) - 1 := by unfold fN; rw [Nat.one_mul]
  have elow : (x + 2 ^ w * y) &&& fN w 1 = x := by
    rw [hf, hp, Nat.mul_assoc, and_low (by omega), and_mask hx]
  have ediv : (x + 2 ^ w * y) / 2 ^ w = y := by
    rw [Nat.add_mul_div_left _ _ (Nat.two_pow_pos w), Nat.div_eq_of_lt hxw, Nat.zero_add]
  have ehigh : (x + 2 ^ w * y) / 2 ^ w &&& fN w 1 = y := by rw [ediv, hf, and_mask hy]
  have hle : 2 ^ w ≤ 2 ^ (2 * w) := Nat.pow_le_pow_right (by decide) (by omega)
  refine ⟨by rw [ehigh, elow, Nat.one_mul]; omega, ?_⟩
  have etold : toldN w 1 (x + 2 ^ w * y) = if x ≤ y then 2 ^ (w - 1) else 0 := by
    rw [told_eq, elow, ehigh, and_mul, Nat.and_one_is_mod, Nat.one_mul]
    by_cases h : x ≤ y
    · rw [if_pos h]
      have e : (y + 2 ^ (w - 1) - x) / 2 ^ (w - 1) = 1 := by
        rw [Nat.div_eq_iff h0]; omega
      rw [e, show 1 % 2 = 1 from rfl, Nat.mul_one]
    · rw [if_neg h, Nat.div_eq_of_lt (by omega), show 0 % 2 = 0 from rfl, Nat.mul_zero]
  have ech : changeN w 1 (x + 2 ^ w * y) = if x ≤ y then x ^^^ y else 0 := by
    rw [change_eq, elow, ehigh, etold]
    by_cases h : x ≤ y
    · rw [if_pos h, if_pos h, Nat.div_self h0, and_mask (Nat.xor_lt_two_pow hx hy)]
    · rw [if_neg h, if_neg h, Nat.zero_div, Nat.sub_zero, Nat.and_zero]
  unfold stepW
  rw [ech]
  by_cases h : x ≤ y
  · rw [if_pos h, if_pos h, if_pos h]
    have hc : x ^^^ y < 2 ^ w := Nat.xor_lt_two_pow hxw hyw
    have e1 : (x ^^^ y) ^^^ ((x ^^^ y) * 2 ^ w) = (x ^^^ y) + 2 ^ w * (x ^^^ y) := by
      have := xorS (N := w) (a := x ^^^ y) (b := 0) (c := 0) (d := x ^^^ y) hc (Nat.two_pow_pos w)
      rw [Nat.mul_zero, Nat.add_zero, Nat.zero_add, Nat.xor_zero, Nat.zero_xor] at this
      rw [Nat.mul_comm (x ^^^ y)]; exact this
    rw [e1, xorS hxw hc, xor_self_left, xor_self_right]
  · rw [if_neg h, if_neg h, if_neg h, Nat.zero_mul, Nat.xor_zero, Nat.xor_zero]
end
theorem step_none (w W : Nat) : stepW w 0 W = W := by
  unfold stepW changeN toldN
  simp
theorem val_even (w : Nat) (hw : 2 ≤ w) : ∀ (n : Nat) (xs : List Nat), xs.length / 2 = n → (∀ x ∈ xs, x < 2 ^ (w - 1)) → stepW w (everyN n (2 * w)) (valN w xs) = valN w (evenR xs)
  | 0, [], _, _ => by rw [every_zero, step_none]; rfl
  | 0, [_], _, _ => by rw [every_zero, step_none]; rfl
  | n + 1, x :: y :: r, hl, hb => by
    have hl' : r.length / 2 = n := by simp only [List.length_cons] at hl; omega
    have ih := val_even w hw n r hl' fun z hz => hb z (List.mem_cons_of_mem _ (List.mem_cons_of_mem _ hz))
    have hx := hb x List.mem_cons_self
    have hy := hb y (List.mem_cons_of_mem _ List.mem_cons_self)
    obtain ⟨h1, h2⟩ := step_pair hw hx hy
    have hp : 2 ^ w = 2 ^ (w - 1) * 2 := by rw [← Nat.pow_succ]; congr 1; omega
    have h0 := Nat.two_pow_pos (w - 1)
    have e2 : 2 ^ (2 * w) = 2 ^ w * 2 ^ w := by rw [← Nat.pow_add]; congr 1; omega
    have ha : x + 2 ^ w * y < 2 ^ (2 * w) := by
      have h3 : 2 ^ w * (y + 1) ≤ 2 ^ w * 2 ^ w := Nat.mul_le_mul_left _ (by omega)
      rw [Nat.mul_add] at h3
      omega
    have H : Blk w (2 * w) 1 (x + 2 ^ w * y) := ⟨by omega, by omega, by rw [show 2 * w - w = w by omega]; omega, ha⟩
    have ev : valN w (x :: y :: r) = (x + 2 ^ w * y) + 2 ^ (2 * w) * valN w r := by
      simp only [valN]
      rw [Nat.mul_add, e2, Nat.mul_assoc]; omega
    rw [ev, every_succ (by omega), step_split H h1, h2, ih]
    simp only [evenR, valN]
    rw [Nat.mul_add, e2, Nat.mul_assoc, Nat.add_assoc]
  | 0, _ :: _ :: r, hl, _ => by simp only [List.length_cons] at hl; omega
  | n + 1, [], hl, _ => by simp at hl
  | n + 1, [_], hl, _ => by simp at hl
theorem val_odd (w : Nat) (hw : 2 ≤ w) (n : Nat) : ∀ xs : List Nat, 1 ≤ xs.length → (xs.length - 1) / 2 = n → (∀ x ∈ xs, x < 2 ^ (w - 1)) → stepW w (everyN n (2 * w) * 2 ^ w) (valN w xs) = valN w (oddR xs)
  | [], h, _, _ => absurd h (by simp)
  | x :: r, _, hl, hb => by
    have ih := val_even w hw n r (by simpa using hl) fun z hz => hb z (List.mem_cons_of_mem _ hz)
    have hx := hb x List.mem_cons_self
    have hp : 2 ^ w = 2 ^ (w - 1) * 2 := by rw [← Nat.pow_succ]; congr 1; omega
    have H : Blk w w 0 x := ⟨by omega, by omega, by rw [Nat.zero_mul]; exact Nat.two_pow_pos _, by omega⟩
    have h1 : (x / 2 ^ w &&& fN w 0) + 0 * 2 ^ (w - 1) - (x &&& fN w 0) < 2 ^ w := by
      have : fN w 0 = 0 := by unfold fN; simp
      rw [this, Nat.and_zero, Nat.and_zero, Nat.zero_mul]; exact Nat.two_pow_pos w
    have e : everyN n (2 * w) * 2 ^ w = 0 + 2 ^ w * everyN n (2 * w) := by rw [Nat.mul_comm, Nat.zero_add]
    rw [e]
    show stepW w _ (x + 2 ^ w * valN w r) = _
    rw [step_split H h1, step_none, ih]; rfl
theorem rounds_bound {w : Nat} {xs : List Nat} (hb : ∀ x ∈ xs, x < 2 ^ (w - 1)) (i : Nat) : ∀ x ∈ roundsR xs i, x < 2 ^ (w - 1) := fun x hx => hb x ((roundsR_perm xs i).mem_iff.mp hx)
theorem val_run (w : Nat) (hw : 2 ≤ w) {m : Nat} {xs : List Nat} (hm : xs.length = m) (h1 : 1 ≤ m) (hb : ∀ x ∈ xs, x < 2 ^ (w - 1)) : ∀ i, runN m w (valN w xs) i = valN w (roundsR xs i)
  | 0 => rfl
  | i + 1 => by
    show stepW w (lowN m w (i % 2)) (runN m w (valN w xs) i) = valN w (roundR i (roundsR xs i))
    rw [val_run w hw hm h1 hb i]
    have hl : (roundsR xs i).length = m := by rw [(roundsR_perm xs i).length_eq, hm]
    unfold lowN roundR
    by_cases h : i % 2 = 0
    · rw [if_pos h, if_pos h, val_even w hw _ _ (by rw [hl]) (rounds_bound hb i)]
    · rw [if_neg h, if_neg h, val_odd w hw _ _ (by rw [hl]; exact h1) (by rw [hl]) (rounds_bound hb i)]
/-! nought and one -/
def stepF (c x : Nat) : Nat := if c ≤ x then 1 else 0
theorem stepF_mono {c x y : Nat} (h : x ≤ y) : stepF c x ≤ stepF c y := by
  unfold stepF
  split
  · rw [if_pos (by omega)]; exact Nat.le_refl _
  · exact Nat.zero_le _
theorem even_map (c : Nat) : ∀ xs : List Nat, evenR (xs.map (stepF c)) = (evenR xs).map (stepF c)
  | [] => rfl
  | [_] => rfl
  | x :: y :: r => by
    have ih := even_map c r
    simp only [List.map_cons, evenR, ih]
    by_cases h : x ≤ y
    · have h1 := stepF_mono (c := c) h
      rw [if_pos h1, if_pos h1, if_pos h, if_pos h]
    · have h1 := stepF_mono (c := c) (Nat.le_of_lt (Nat.lt_of_not_le h))
      rw [if_neg h, if_neg h]
      by_cases h2 : stepF c x ≤ stepF c y
      · rw [if_pos h2, if_pos h2, Nat.le_antisymm h1 h2]
      · rw [if_neg h2, if_neg h2]
theorem odd_map (c : Nat) : ∀ xs : List Nat, oddR (xs.map (stepF c)) = (oddR xs).map (stepF c)
  | [] => rfl
  | x :: r => by simp only [List.map_cons, oddR, even_map c r]
theorem rounds_map (c : Nat) (xs : List Nat) : ∀ i, roundsR (xs.map (stepF c)) i = (roundsR xs i).map (stepF c)
  | 0 => rfl
  | i + 1 => by
    simp only [roundsR, rounds_map c xs i]
    unfold roundR
    split
    · exact even_map c _
    · exact odd_map c _
def descB : List Nat → Bool
  | x :: y :: r => Nat.ble y x && descB (y :: r)
  | _ => true
def allB : Nat → List (List Nat)
  | 0 => [[]]
  | n + 1 => (allB n).flatMap fun r => [0 :: r, 1 :: r]
theorem allB_mem : ∀ (n : Nat) (b : List Nat), b.length = n → (∀ x ∈ b, x = 0 ∨ x = 1) → b ∈ allB n
  | 0, b, h, _ => by rw [List.length_eq_zero_iff.mp h]; exact List.mem_cons_self
  | n + 1, [], h, _ => by simp at h
  | n + 1, x :: r, h, hb => by
    have ih := allB_mem n r (by simpa using h) fun z hz => hb z (List.mem_cons_of_mem _ hz)
    refine List.mem_flatMap.mpr ⟨r, ih, ?_⟩
    rcases hb x List.mem_cons_self with rfl | rfl
    · exact List.mem_cons_self
    · exact List.mem_cons_of_mem _ List.mem_cons_self
theorem net5 : (allB 5).all (fun b => descB (roundsR b 5)) = true := by decide +kernel
theorem net6 : (allB 6).all (fun b => descB (roundsR b 6)) = true := by decide +kernel
theorem net7 : (allB 7).all (fun b => descB (roundsR b 7)) = true := by decide +kernel
theorem net8 : (allB 8).all (fun b => descB (roundsR b 8)) = true := by decide +kernel
theorem net_all {m : Nat} (h5 : 5 ≤ m) (h8 : m ≤ 8) {b : List Nat} (hb : b ∈ allB m) : descB (roundsR b m) = true := by
  have h : m = 5 ∨ m = 6 ∨ m = 7 ∨ m = 8 := by omega
  rcases h with rfl | rfl | rfl | rfl
  · exact List.all_eq_true.mp net5 b hb
  · exact List.all_eq_true.mp net6 b hb
  · exact List.all_eq_true.mp net7 b hb
  · exact List.all_eq_true.mp net8 b hb
theorem desc_of_map : ∀ l : List Nat, (∀ c, descB (l.map (stepF c)) = true) → descB l = true
  | [], _ => rfl
  | [_], _ => rfl
  | x :: y :: r, h => by
    have ih := desc_of_map (y :: r) fun c => by
      have := h c
      simp only [List.map_cons, descB, Bool.and_eq_true] at this ⊢
      exact this.2
    have hy := h y
    simp only [List.map_cons, descB, Bool.and_eq_true, Nat.ble_eq] at hy
    have h1 : y ≤ x := by
      have h2 := hy.1
      unfold stepF at h2
      rw [if_pos (Nat.le_refl y)] at h2
      by_cases h3 : y ≤ x
      · exact h3
      · rw [if_neg h3] at h2; omega
    simp only [descB, Bool.and_eq_true, Nat.ble_eq]
    exact ⟨h1, ih⟩
theorem desc_pairwise : ∀ l : List Nat, descB l = true → l.Pairwise (fun a b => b ≤ a)
  | [], _ => .nil
  | [_], _ => List.pairwise_singleton _ _
  | x :: y :: r, h => by
    simp only [descB, Bool.and_eq_true, Nat.ble_eq] at h
    have ih := desc_pairwise (y :: r) h.2
    refine List.pairwise_cons.mpr ⟨fun z hz => ?_, ih⟩
    rcases List.mem_cons.mp hz with rfl | hz
    · exact h.1
    · exact Nat.le_trans ((List.pairwise_cons.mp ih).1 z hz) h.1
theorem rounds_sorted {m : Nat} (h5 : 5 ≤ m) (h8 : m ≤ 8) {xs : List Nat} (hm : xs.length = m) : (roundsR xs m).Pairwise (fun a b => b ≤ a) := by
  refine desc_pairwise _ (desc_of_map _ fun c => ?_)
  rw [← rounds_map]
  refine net_all h5 h8 (allB_mem m _ (by rw [List.length_map]; exact hm) fun z hz => ?_)
  obtain ⟨x, _, rfl⟩ := List.mem_map.mp hz
  unfold stepF
  split
  · exact .inr rfl
  · exact .inl rfl
/-- two sorted lists of the same things are one -/
theorem sorted_same {a b : List Nat} (hp : a.Perm b) (ha : a.Pairwise (· ≤ ·)) (hb : b.Pairwise (· ≤ ·)) : a = b :=
  List.Perm.eq_of_pairwise (fun _ _ _ _ h1 h2 => Nat.le_antisymm h1 h2) ha hb hp
/-- slots, the highest first -/
def wordN (B : Nat) (xs : List Nat) : Nat := xs.foldl (fun a x => a * B + x) 0
theorem wordN_snoc (B : Nat) (xs : List Nat) (x : Nat) : wordN B (xs ++ [x]) = wordN B xs * B + x := by unfold wordN; rw [List.foldl_append]; rfl
theorem word_val (w : Nat) (xs : List Nat) : wordN (2 ^ w) xs = valN w xs.reverse := by
  refine snoc_ind (P := fun xs => wordN (2 ^ w) xs = valN w xs.reverse) rfl (fun xs x ih => ?_) xs
  rw [wordN_snoc, List.reverse_append, ih]
  show _ = x + 2 ^ w * valN w xs.reverse
  rw [Nat.mul_comm]; omega
theorem run_sorted {m w : Nat} (h5 : 5 ≤ m) (h8 : m ≤ 8) (hw : 9 ≤ w) {row rs : List Nat} (hm : row.length = m) (hb : ∀ x ∈ row, x < m) (hp : rs.Perm row) (hs : rs.Pairwise (· ≤ ·)) :
    runN m w (wordN (2 ^ w) row) m = wordN (2 ^ w) rs := by
  have h256 : 2 ^ 8 ≤ 2 ^ (w - 1) := Nat.pow_le_pow_right (by decide) (by omega)
  have hbb : ∀ x ∈ row.reverse, x < 2 ^ (w - 1) := fun x hx => by
    have := hb x (List.mem_reverse.mp hx)
    omega
  rw [word_val, val_run w (by omega) (by rw [List.length_reverse, hm]) (by omega) hbb m, word_val]
  congr 1
  have hP := roundsR_perm row.reverse m
  have hS := rounds_sorted h5 h8 (xs := row.reverse) (by rw [List.length_reverse, hm])
  have e : rs = (roundsR row.reverse m).reverse := by
    refine sorted_same ?_ hs (List.pairwise_reverse.mpr hS)
    exact hp.trans ((List.reverse_perm row).symm.trans (hP.symm.trans (List.reverse_perm _).symm))
  rw [e, List.reverse_reverse]
end Mine
end
section
open PySem PySem.W PyProof.Rows
namespace Mine
/-! words out of m slots, the highest first -/
def WN (w m : Nat) (f : Nat → Nat) : Nat := wordN (2 ^ w) ((List.range m).map f)
section
variable {w : Nat}
theorem WN_zero (f : Nat → Nat) : WN w 0 f = 0 := rfl
theorem WN_succ (m : Nat) (f : Nat → Nat) : WN w (m + 1) f = WN w m f * 2 ^ w + f m := by
  unfold WN
  rw [List.range_succ, List.map_append, List.map_cons, List.map_nil, wordN_snoc]
theorem WN_succ' (m : Nat) (f : Nat → Nat) : WN w (m + 1) f = f m + 2 ^ w * WN w m f := by rw [WN_succ, Nat.mul_comm]; omega
theorem WN_congr {f g : Nat → Nat} : ∀ m, (∀ j, j < m → f j = g j) → WN w m f = WN w m g
  | 0, _ => rfl
  | m + 1, h => by rw [WN_succ, WN_succ, WN_congr m fun j hj => h j (by omega), h m (by omega)]
theorem WN_add (f g : Nat → Nat) : ∀ m, WN w m f + WN w m g = WN w m fun j => f j + g j
  | 0 => rfl
  | m + 1 => by rw [WN_succ, WN_succ, WN_succ, ← WN_add f g m, Nat.add_mul]; omega
theorem WN_mul (f : Nat → Nat) (c : Nat) : ∀ m, WN w m f * c = WN w m fun j => f j * c
  | 0 => by rw [WN_zero, WN_zero, Nat.zero_mul]
  | m + 1 => by rw [WN_succ, WN_succ, ← WN_mul f c m, Nat.add_mul, Nat.mul_assoc, Nat.mul_comm (2 ^ w) c, ← Nat.mul_assoc]
theorem WN_le {f g : Nat → Nat} : ∀ m, (∀ j, j < m → f j ≤ g j) → WN w m f ≤ WN w m g
  | 0, _ => Nat.le_refl _
  | m + 1, h => by
    rw [WN_succ, WN_succ]
    exact Nat.add_le_add (Nat.mul_le_mul_right _ (WN_le m fun j hj => h j (by omega))) (h m (by omega))
theorem WN_sub {f g : Nat → Nat} (m : Nat) (h : ∀ j, j < m → g j ≤ f j) : WN w m f - WN w m g = WN w m fun j => f j - g j := by
  have h1 : WN w m (fun j => f j - g j) + WN w m g = WN w m f := by
    rw [WN_add]
    exact WN_congr m fun j hj => Nat.sub_add_cancel (h j hj)
  omega
theorem WN_lt {f : Nat → Nat} : ∀ m, (∀ j, j < m → f j < 2 ^ w) → WN w m f < 2 ^ (m * w)
  | 0, _ => by rw [WN_zero]; exact Nat.two_pow_pos _
  | m + 1, h => by
    have h1 := WN_lt m fun j hj => h j (by omega)
    have h2 := h m (by omega)
    have h3 : (WN w m f + 1) * 2 ^ w ≤ 2 ^ (m * w) * 2 ^ w := Nat.mul_le_mul_right _ h1
    rw [WN_succ, Nat.succ_mul, Nat.pow_add]
    rw [Nat.add_mul] at h3
    omega
theorem WN_and {f g : Nat → Nat} : ∀ m, (∀ j, j < m → f j < 2 ^ w) → (∀ j, j < m → g j < 2 ^ w) → WN w m f &&& WN w m g = WN w m fun j => f j &&& g j
  | 0, _, _ => by simp [WN_zero]
  | m + 1, hf, hg => by
    rw [WN_succ', WN_succ', WN_succ', andS (hf m (by omega)) (hg m (by omega)), WN_and m (fun j hj => hf j (by omega)) fun j hj => hg j (by omega)]
theorem WN_xor {f g : Nat → Nat} : ∀ m, (∀ j, j < m → f j < 2 ^ w) → (∀ j, j < m → g j < 2 ^ w) → WN w m f ^^^ WN w m g = WN w m fun j => f j ^^^ g j
  | 0, _, _ => by simp [WN_zero]
  | m + 1, hf, hg => by
    rw [WN_succ', WN_succ', WN_succ', xorS (hf m (by omega)) (hg m (by omega)), WN_xor m (fun j hj => hf j (by omega)) fun j hj => hg j (by omega)]
theorem WN_inj {f g : Nat → Nat} : ∀ m, (∀ j, j < m → f j < 2 ^ w) → (∀ j, j < m → g j < 2 ^ w) → WN w m f = WN w m g → ∀ j, j < m → f j = g j
  | 0, _, _, _ => fun j hj => absurd hj (Nat.not_lt_zero j)
  | m + 1, hf, hg, h => by
    rw [WN_succ', WN_succ'] at h
    have e1 := congrArg (· % 2 ^ w) h
    have e2 := congrArg (· / 2 ^ w) h
    simp only [Nat.add_mul_mod_self_left, Nat.mod_eq_of_lt (hf m (by omega)), Nat.mod_eq_of_lt (hg m (by omega))] at e1
    simp only [Nat.add_mul_div_left _ _ (Nat.two_pow_pos w), Nat.div_eq_of_lt (hf m (by omega)), Nat.div_eq_of_lt (hg m (by omega)), Nat.zero_add] at e2
    intro j hj
    by_cases hjm : j = m
    · subst hjm; exact e1
    · exact WN_inj m (fun j hj => hf j (by omega)) (fun j hj => hg j (by omega)) e2 j (by omega)
theorem every_WN (h1 : 1 ≤ w) : ∀ m, everyN m w = WN w m fun _ => 1
  | 0 => by rw [every_zero, WN_zero]
  | m + 1 => by rw [every_succ h1, every_WN h1 m, WN_succ']
theorem WN_bit {f : Nat → Nat} {b : Nat} (hb : b < w) : ∀ m, (∀ j, j < m → f j < 2 ^ w) → ∀ j, j < m → (WN w m f).testBit ((m - 1 - j) * w + b) = (f j).testBit b
  | 0, _, j, hj => absurd hj (Nat.not_lt_zero j)
  | m + 1, hf, j, hj => by
    rw [WN_succ', Nat.add_comm, Nat.testBit_two_pow_mul_add _ (hf m (by omega))]
    by_cases hjm : j = m
    · subst hjm
      rw [show j + 1 - 1 - j = 0 by omega, Nat.zero_mul, Nat.zero_add, if_pos hb]
    · have e : m + 1 - 1 - j = (m - 1 - j) + 1 := by omega
      rw [e, Nat.succ_mul, if_neg (by omega), show (m - 1 - j) * w + w + b - w = (m - 1 - j) * w + b by omega]
      exact WN_bit hb m (fun j hj => hf j (by omega)) j (by omega)
/-- a list as slots -/
theorem word_WN (xs : List Nat) : wordN (2 ^ w) xs = WN w xs.length fun j => xs.getD j 0 := by
  unfold WN
  congr 1
  refine List.ext_getElem (by simp) fun i h1 h2 => ?_
  simp [List.getD_eq_getElem?_getD, h1]
/-- sums out of a word, by one division -/
theorem take_sum_succ (xs : List Nat) {i : Nat} (h : i < xs.length) : (xs.take (i + 1)).sum = (xs.take i).sum + xs.getD i 0 := by
  rw [take_snoc xs 0 h, List.sum_append]; simp
theorem sums_word (xs : List Nat) : ∀ i, i ≤ xs.length → wordN (2 ^ w) (xs.take i) * 2 ^ w = (2 ^ w - 1) * WN w i (fun j => (xs.take (j + 1)).sum) + (xs.take i).sum
  | 0, _ => by simp [wordN, WN_zero]
  | i + 1, h => by
    have ih := sums_word xs i (by omega)
    have h0 := Nat.two_pow_pos w
    rw [take_snoc xs 0 (by omega), wordN_snoc, ih, WN_succ, ← take_snoc xs 0 (by omega), take_sum_succ xs (by omega)]
    generalize WN w i (fun j => (xs.take (j + 1)).sum) = S
    generalize (xs.take i).sum = T
    generalize xs.getD i 0 = x
    generalize 2 ^ w = B at h0
    obtain ⟨b, rfl⟩ : ∃ b, B = b + 1 := ⟨B - 1, by omega⟩
    simp only [Nat.add_sub_cancel]
    simp only [Nat.add_mul, Nat.mul_add, Nat.mul_one, Nat.mul_assoc, Nat.mul_comm T b, Nat.mul_comm x b]
    omega
theorem sums_div (hw : 9 ≤ w) {xs : List Nat} (ht : xs.sum < 511) :
    wordN (2 ^ w) xs * 2 ^ w / (2 ^ w - 1) = WN w xs.length (fun j => (xs.take (j + 1)).sum) ∧ wordN (2 ^ w) xs * 2 ^ w % (2 ^ w - 1) = xs.sum := by
  have h := sums_word (w := w) xs xs.length (Nat.le_refl _)
  rw [List.take_length] at h
  have h512 : 2 ^ 9 ≤ 2 ^ w := Nat.pow_le_pow_right (by decide) hw
  have hlt : xs.sum < 2 ^ w - 1 := by omega
  rw [h]
  refine ⟨?_, ?_⟩
  · rw [Nat.mul_add_div (by omega), Nat.div_eq_of_lt hlt, Nat.add_zero]
  · rw [Nat.mul_add_mod, Nat.mod_eq_of_lt hlt]
end
end Mine
end
section
open PySem PySem.W PyProof.Rows
namespace Mine
theorem slot_and {k v : Nat} (hv : v < 2 ^ k * 2) : v &&& 2 ^ k = if 2 ^ k ≤ v then 2 ^ k else 0 := by
  have h0 := Nat.two_pow_pos k
  have e : 2 ^ k = 1 * 2 ^ k := by omega
  have h1 : v &&& 2 ^ k = 2 ^ k * (v / 2 ^ k &&& 1) := by
    conv => lhs; rw [e]
    exact and_mul v 1 k
  rw [h1, Nat.and_one_is_mod]
  by_cases h : 2 ^ k ≤ v
  · rw [if_pos h]
    have e2 : v / 2 ^ k = 1 := by rw [Nat.div_eq_iff h0]; omega
    rw [e2, show 1 % 2 = 1 from rfl, Nat.mul_one]
  · rw [if_neg h, Nat.div_eq_of_lt (by omega), show 0 % 2 = 0 from rfl, Nat.mul_zero]
/-- the marks and the sums -/
structure Slots (w m : Nat) (s n : Nat → Nat) : Prop where
  w9 : 9 ≤ w
  hs : ∀ j, j < m → s j < 200
  hn : ∀ j, j < m → n j < 100
section
variable {w m : Nat} {s n : Nat → Nat}
theorem Slots.h (H : Slots w m s n) : 2 ^ w = 2 ^ (w - 1) * 2 ∧ 256 ≤ 2 ^ (w - 1) := by
  have := H.w9
  have h256 : 2 ^ 8 ≤ 2 ^ (w - 1) := Nat.pow_le_pow_right (by decide) (by omega)
  exact ⟨by rw [← Nat.pow_succ]; congr 1; omega, h256⟩
def marksN (m w : Nat) : Nat := everyN m w * 2 ^ (w - 1)
theorem Slots.marks (H : Slots w m s n) : marksN m w = WN w m fun _ => 2 ^ (w - 1) := by
  unfold marksN
  rw [every_WN (by have := H.w9; omega), WN_mul]
  exact WN_congr m fun j _ => Nat.one_mul _
def aboveN (m w : Nat) (s n : Nat → Nat) : Nat := WN w m fun j => s j + 2 ^ (w - 1) - n j
theorem Slots.above (H : Slots w m s n) : WN w m s + marksN m w - WN w m n = aboveN m w s n := by
  have ⟨_, h2⟩ := H.h
  rw [H.marks, WN_add, WN_sub m fun j hj => ?_]
  · rfl
  · have := H.hn j hj; omega
theorem Slots.need_le (H : Slots w m s n) : WN w m n ≤ WN w m s + marksN m w := by
  have ⟨_, h2⟩ := H.h
  rw [H.marks, WN_add]
  exact WN_le m fun j hj => by have := H.hn j hj; omega
theorem Slots.enough (H : Slots w m s n) : (aboveN m w s n &&& marksN m w = marksN m w) ↔ ∀ j, j < m → n j ≤ s j := by
  have ⟨h1, h2⟩ := H.h
  have hb1 : ∀ j, j < m → s j + 2 ^ (w - 1) - n j < 2 ^ w := fun j hj => by have := H.hs j hj; omega
  have hb2 : ∀ j, j < m → 2 ^ (w - 1) < 2 ^ w := fun j hj => by omega
  have e : aboveN m w s n &&& marksN m w = WN w m fun j => (s j + 2 ^ (w - 1) - n j) &&& 2 ^ (w - 1) := by
    rw [H.marks]; exact WN_and m hb1 hb2
  rw [e, H.marks]
  constructor
  · intro h j hj
    have := WN_inj m (fun j hj => Nat.lt_of_le_of_lt Nat.and_le_right (hb2 j hj)) hb2 h j hj
    rw [slot_and (by rw [← h1]; exact hb1 j hj)] at this
    split at this
    · omega
    · omega
  · intro h
    refine WN_congr m fun j hj => ?_
    have := h j hj
    rw [slot_and (by rw [← h1]; exact hb1 j hj), if_pos (by omega)]
def tightN (m w : Nat) (s n : Nat → Nat) : Nat := ((aboveN m w s n - everyN m w) &&& marksN m w) ^^^ marksN m w
theorem Slots.ones_le (H : Slots w m s n) : everyN m w ≤ aboveN m w s n := by
  have ⟨_, h2⟩ := H.h
  rw [every_WN (by have := H.w9; omega)]
  exact WN_le m fun j hj => by have := H.hn j hj; omega
theorem Slots.tight (H : Slots w m s n) : tightN m w s n = WN w m fun j => if n j < s j then 0 else 2 ^ (w - 1) := by
  have ⟨h1, h2⟩ := H.h
  have hb1 : ∀ j, j < m → s j + 2 ^ (w - 1) - n j - 1 < 2 ^ w := fun j hj => by have := H.hs j hj; omega
  have hb2 : ∀ j, j < m → 2 ^ (w - 1) < 2 ^ w := fun j hj => by omega
  have e1 : aboveN m w s n - everyN m w = WN w m fun j => s j + 2 ^ (w - 1) - n j - 1 := by
    rw [every_WN (by have := H.w9; omega)]
    exact WN_sub m fun j hj => by have := H.hn j hj; omega
  unfold tightN
  rw [e1, H.marks, WN_and m hb1 hb2, WN_xor m (fun j hj => Nat.lt_of_le_of_lt Nat.and_le_right (hb2 j hj)) hb2]
  refine WN_congr m fun j hj => ?_
  have := H.hn j hj
  rw [slot_and (by rw [← h1]; exact hb1 j hj)]
  by_cases h : n j < s j
  · rw [if_pos h, if_pos (by omega), Nat.xor_self]
  · rw [if_neg h, if_neg (by omega), Nat.zero_xor]
theorem Slots.bit (H : Slots w m s n) {j : Nat} (hj : j < m) : (tightN m w s n).testBit ((m - 1 - j) * w + (w - 1)) = decide (s j ≤ n j) := by
  have ⟨h1, h2⟩ := H.h
  have := H.w9
  rw [H.tight, WN_bit (by omega) m (fun j _ => by split <;> omega) j hj]
  by_cases h : n j < s j
  · rw [if_pos h, Nat.zero_testBit]; exact (decide_eq_false (by omega)).symm
  · rw [if_neg h, Nat.testBit_two_pow_self]; exact (decide_eq_true (by omega)).symm
end
end Mine
end
section
open PySem PySem.W PyProof.Rows
namespace Mine
/-! the building of a league, in a plain form -/
abbrev cI (x : Nat) : Int := (x : Int)
theorem decr_len (xs : List Nat) (wins : List Int) : (decrI wins (xs.map cI)).length = wins.length := decrI_len _ _
theorem decr_getD : ∀ (xs : List Nat) (wins : List Int) (i : Nat), xs.Nodup → (∀ x ∈ xs, x < wins.length) → (decrI wins (xs.map cI)).getD i 0 = wins.getD i 0 - (if i ∈ xs then 1 else 0)
  | [], wins, i, _, _ => by
    show wins.getD i 0 = _
    rw [if_neg (by simp), Int.sub_zero]
  | x :: r, wins, i, hn, hb => by
    have hx := hb x List.mem_cons_self
    have ⟨h1, h2⟩ := List.nodup_cons.mp hn
    show (decrI (wins.set x (wins.getD x 0 - 1)) (r.map cI)).getD i 0 = _
    rw [decr_getD r _ i h2 fun y hy => by rw [List.length_set]; exact hb y (List.mem_cons_of_mem _ hy)]
    by_cases hi : i = x
    · subst hi
      rw [if_neg h1, if_pos List.mem_cons_self]
      simp only [List.getD_eq_getElem?_getD, List.getElem?_set_self hx, Option.getD_some]
      omega
    · have e : (wins.set x (wins.getD x 0 - 1)).getD i 0 = wins.getD i 0 := by
        simp only [List.getD_eq_getElem?_getD]
        rw [List.getElem?_set_ne (Ne.symm hi)]
      rw [e]
      by_cases h : i ∈ r
      · rw [if_pos h, if_pos (List.mem_cons_of_mem _ h)]
      · rw [if_neg h, if_neg (by simp [hi, h])]
/-- the building's steps, plainly -/
theorem LgR.plain {row : List Int} {P : List Int → List Nat → List (Int × Int) → Prop} (h0 : P row (List.range row.length) [])
    (h1 : ∀ wins left init (F W : Nat) ts, P wins left ts → (init ++ [F]).Perm left → LgSorted wins (init ++ [F]) → wins.getD F 0 = (W : Int) → W ≤ init.length →
      P (decrI wins ((init.drop W).map cI)) init (ts ++ (init.take W).map (fun x => (cI F, cI x)) ++ (init.drop W).map (fun x => (cI x, cI F)))) :
    ∀ {wins left ts}, LgR row wins left ts → P wins left ts := by
  intro wins left ts h
  induction h with
  | start => exact h0
  | @step wins left left1 ts FI L5 h hp hs hl h5 hF g0 g1 ih =>
    have hne : left1 ≠ [] := by intro e; rw [e] at hp; rw [← hp.length_eq] at hl; simp at hl
    obtain ⟨init, F, rfl⟩ : ∃ init F, left1 = init ++ [F] := ⟨left1.dropLast, left1.getLast hne, (List.dropLast_concat_getLast hne).symm⟩
    have e5 : L5 = init.map cI := by rw [h5, List.map_append, List.map_cons, List.map_nil, List.dropLast_concat]
    have eF : FI = (F : Int) := by
      rw [← hF, List.map_append, List.map_cons, List.map_nil, List.getLastD_eq_getLast?, List.getLast?_concat]; rfl
    subst e5; subst eF
    rw [Int.toNat_natCast] at g0 g1 ⊢
    rw [List.length_map] at g1
    obtain ⟨W, hW⟩ : ∃ W : Nat, wins.getD F 0 = (W : Int) := ⟨(wins.getD F 0).toNat, (Int.toNat_of_nonneg g0).symm⟩
    rw [hW] at g1 ⊢
    rw [Int.toNat_natCast, List.dropLast_concat, ← List.map_take, ← List.map_drop, List.map_map, List.map_map]
    exact h1 wins left init F W ts ih hp hs hW (by omega)
/-- what stands all along -/
structure LgI (row wins : List Int) (left : List Nat) : Prop where
  len : wins.length = row.length
  nd : left.Nodup
  lt : ∀ x ∈ left, x < row.length
theorem LgI.start (row : List Int) : LgI row row (List.range row.length) := ⟨rfl, List.nodup_range, fun _ h => List.mem_range.mp h⟩
theorem LgI.step {row wins : List Int} {left init : List Nat} {F W : Nat} (H : LgI row wins left) (hp : (init ++ [F]).Perm left) : LgI row (decrI wins ((init.drop W).map cI)) init ∧ init.Nodup ∧ F ∉ init ∧ F < row.length ∧ (∀ x ∈ init, x < wins.length) := by
  have hn : (init ++ [F]).Nodup := hp.nodup_iff.mpr H.nd
  have h1 : ∀ x ∈ init, x < row.length := fun x hx => H.lt x (hp.mem_iff.mp (List.mem_append_left _ hx))
  have hi : init.Nodup := hn.sublist (List.sublist_append_left _ _)
  refine ⟨⟨by rw [decr_len, H.len], hi, h1⟩, hi, fun h => ?_, H.lt F (hp.mem_iff.mp (List.mem_append_right _ List.mem_cons_self)), fun x hx => by rw [H.len]; exact h1 x hx⟩
  have := (List.nodup_append.mp hn).2.2 F h F List.mem_cons_self
  exact this rfl
/-! counting -/
def tri (k : Nat) : Nat := k * (k - 1) / 2
theorem tri_succ (k : Nat) : tri (k + 1) = tri k + k := by
  unfold tri
  cases k with
  | zero => rfl
  | succ n =>
    show (n + 1 + 1) * (n + 1) / 2 = (n + 1) * n / 2 + (n + 1)
    have e : (n + 1 + 1) * (n + 1) = (n + 1) * n + 2 * (n + 1) := by
      rw [Nat.add_mul (n + 1) 1, Nat.mul_add (n + 1) n 1]; omega
    rw [e, Nat.add_mul_div_left _ _ (by decide)]
def isum' (wins : List Int) (l : List Nat) : Int := (l.map fun x => wins.getD x 0).sum
theorem isum'_perm {wins : List Int} {a b : List Nat} (h : a.Perm b) : isum' wins a = isum' wins b := sum_perm (h.map _)
theorem isum'_append (wins : List Int) (a b : List Nat) : isum' wins (a ++ b) = isum' wins a + isum' wins b := by
  unfold isum'; rw [List.map_append, List.sum_append]
theorem isum'_decr {wins : List Int} {init : List Nat} {W : Nat} (hn : init.Nodup) (hb : ∀ x ∈ init, x < wins.length) (p : Nat → Bool) :
    isum' (decrI wins ((init.drop W).map cI)) (init.filter p) + (((init.drop W).filter p).length : Int) = isum' wins (init.filter p) := by
  have hd : ∀ x, (decrI wins ((init.drop W).map cI)).getD x 0 = wins.getD x 0 - (if x ∈ init.drop W then 1 else 0) := fun x =>
    decr_getD _ _ x (hn.sublist (List.drop_sublist _ _)) fun y hy => hb y (List.mem_of_mem_drop hy)
  have hsplit : init = init.take W ++ init.drop W := (List.take_append_drop W init).symm
  have hdis : ∀ x ∈ init.take W, x ∉ init.drop W := fun x hx hy => by
    rw [hsplit] at hn
    exact (List.nodup_append.mp hn).2.2 x hx x hy rfl
  have e1 : init.filter p = (init.take W).filter p ++ (init.drop W).filter p := by
    conv => lhs; rw [hsplit]
    rw [List.filter_append]
  rw [e1, isum'_append, isum'_append]
  have e2 : isum' (decrI wins ((init.drop W).map cI)) ((init.take W).filter p) = isum' wins ((init.take W).filter p) := by
    unfold isum'
    congr 1
    refine List.map_congr_left fun x hx => ?_
    rw [hd, if_neg (hdis x (List.mem_filter.mp hx).1), Int.sub_zero]
  have e3 : ∀ l : List Nat, (∀ x ∈ l, x ∈ init.drop W) → isum' (decrI wins ((init.drop W).map cI)) l + (l.length : Int) = isum' wins l := by
    intro l
    induction l with
    | nil => intro _; rfl
    | cons y r ih =>
      intro hl
      have := ih fun x hx => hl x (List.mem_cons_of_mem _ hx)
      unfold isum' at this ⊢
      rw [List.map_cons, List.map_cons, List.sum_cons, List.sum_cons, hd, if_pos (hl y List.mem_cons_self), List.length_cons]
      omega
  have e4 := e3 ((init.drop W).filter p) fun x hx => (List.mem_filter.mp hx).1
  omega
/-- how many games those of p have won, and how many they have played among them -/
def wonN (p : Nat → Bool) (ts : List (Int × Int)) : Nat := ts.countP fun e => p e.1.toNat
def inN (p : Nat → Bool) (ts : List (Int × Int)) : Nat := ts.countP fun e => p e.1.toNat && p e.2.toNat
def outN (p : Nat → Bool) (ts : List (Int × Int)) : Nat := ts.countP fun e => p e.1.toNat && !p e.2.toNat
theorem won_in_out (p : Nat → Bool) (ts : List (Int × Int)) : wonN p ts = inN p ts + outN p ts := by
  unfold wonN inN outN
  induction ts with
  | nil => rfl
  | cons e r ih =>
    rw [List.countP_cons, List.countP_cons, List.countP_cons, ih]
    cases p e.1.toNat <;> cases p e.2.toNat <;> simp <;> omega
theorem countP_const {α : Type} {q : α → Bool} {b : Bool} {l : List α} (h : ∀ x ∈ l, q x = b) : l.countP q = if b then l.length else 0 := by
  cases b with
  | true => rw [if_pos rfl]; exact List.countP_eq_length.mpr h
  | false => rw [if_neg (by decide)]; exact List.countP_eq_zero.mpr fun x hx => by rw [h x hx]; decide
theorem LgR.count {row : List Int} (p : Nat → Bool) {wins : List Int} {left : List Nat} {ts : List (Int × Int)} (h : LgR row wins left ts) :
    LgI row wins left ∧ isum' wins (left.filter p) + (wonN p ts : Int) = isum' row ((List.range row.length).filter p) ∧ inN p ts + tri (left.filter p).length = tri ((List.range row.length).filter p).length := by
  refine LgR.plain (P := fun wins left ts => LgI row wins left ∧ isum' wins (left.filter p) + (wonN p ts : Int) = isum' row ((List.range row.length).filter p) ∧ inN p ts + tri (left.filter p).length = tri ((List.range row.length).filter p).length) ?_ ?_ h
  · refine ⟨LgI.start row, ?_, ?_⟩
    · show _ + (0 : Int) = _
      rw [Int.add_zero]
    · show 0 + _ = _
      rw [Nat.zero_add]
  · rintro wins left init F W ts ⟨hI, h1, h2⟩ hp hs hW hWl
    obtain ⟨hI', hn, hF, hFl, hb⟩ := hI.step (W := W) hp
    refine ⟨hI', ?_, ?_⟩
    · rw [← h1, ← isum'_perm (hp.filter p), List.filter_append, isum'_append]
      have h3 := isum'_decr (W := W) hn hb p
      have e1 : wonN p (ts ++ (init.take W).map (fun x => (cI F, cI x)) ++ (init.drop W).map (fun x => (cI x, cI F))) = wonN p ts + (if p F then W else 0) + ((init.drop W).filter p).length := by
        unfold wonN
        rw [List.countP_append, List.countP_append, List.countP_map, List.countP_map, List.countP_eq_length_filter (p := _ ∘ fun x => (cI x, cI F))]
        have e2 : (init.take W).countP ((fun e : Int × Int => p e.1.toNat) ∘ fun x => (cI F, cI x)) = if p F then W else 0 := by
          have h4 := countP_const (q := (fun e : Int × Int => p e.1.toNat) ∘ fun x => (cI F, cI x)) (b := p F) (l := init.take W) fun x _ => by simp
          rw [h4, List.length_take, Nat.min_eq_left hWl]
        have e3 : ((fun e : Int × Int => p e.1.toNat) ∘ fun x => (cI x, cI F)) = p := by funext x; simp
        rw [e2, e3]
      rw [e1]
      have e4 : isum' wins ([F].filter p) = if p F then (W : Int) else 0 := by
        unfold isum'
        cases h5 : p F with
        | true =>
          rw [List.filter_cons_of_pos h5, List.filter_nil, List.map_cons, List.map_nil, List.sum_cons, List.sum_nil, hW, Int.add_zero]; rfl
        | false => simp [h5]
      rw [e4]
      cases p F
      · simp only [Bool.false_eq_true, if_false]; omega
      · simp only [if_true]; omega
    · rw [← h2, ← (hp.filter p).length_eq, List.filter_append, List.length_append]
      have e1 : inN p (ts ++ (init.take W).map (fun x => (cI F, cI x)) ++ (init.drop W).map (fun x => (cI x, cI F))) = inN p ts + (if p F then (init.filter p).length else 0) := by
        unfold inN
        rw [List.countP_append, List.countP_append, List.countP_map, List.countP_map]
        cases h5 : p F with
        | true =>
          have e3 : ((fun e : Int × Int => p e.1.toNat && p e.2.toNat) ∘ fun x => (cI x, cI F)) = p := by funext x; simp [h5]
          have e2 : ((fun e : Int × Int => p e.1.toNat && p e.2.toNat) ∘ fun x => (cI F, cI x)) = p := by funext x; simp [h5]
          rw [e2, e3, if_pos rfl, Nat.add_assoc, ← List.countP_append, List.take_append_drop, ← List.countP_eq_length_filter (p := p) (l := init)]
        | false =>
          have e3 : ((fun e : Int × Int => p e.1.toNat && p e.2.toNat) ∘ fun x => (cI x, cI F)) = fun _ => false := by funext x; simp [h5]
          have e2 : ((fun e : Int × Int => p e.1.toNat && p e.2.toNat) ∘ fun x => (cI F, cI x)) = fun _ => false := by funext x; simp [h5]
          rw [e2, e3]
          simp
      rw [e1]
      cases h5 : p F with
      | true =>
        simp only [h5, if_true, List.filter_cons_of_pos, List.filter_nil, List.length_cons, List.length_nil]
        rw [tri_succ]; omega
      | false => simp [h5]
end Mine
end
section
open PySem PySem.W PyProof.Rows
namespace Mine
/-! Landau -/
def landG : List Nat → Nat → Nat → Bool
  | [], sum, cnt => Nat.beq sum (tri cnt)
  | x :: r, sum, cnt => Nat.ble (tri (cnt + 1)) (sum + x) && landG r (sum + x) (cnt + 1)
def insN (x : Nat) : List Nat → List Nat
  | [] => [x]
  | y :: r => if Nat.ble x y = true then x :: y :: r else y :: insN x r
def isortN : List Nat → List Nat
  | [] => []
  | x :: r => insN x (isortN r)
theorem insN_perm (x : Nat) : ∀ l, (insN x l).Perm (x :: l)
  | [] => .refl _
  | y :: r => by
    unfold insN
    split
    · exact .refl _
    · exact ((insN_perm x r).cons y).trans (List.Perm.swap x y r)
theorem isortN_perm : ∀ l, (isortN l).Perm l
  | [] => .refl _
  | x :: r => (insN_perm x _).trans ((isortN_perm r).cons x)
theorem insN_sorted (x : Nat) : ∀ l : List Nat, l.Pairwise (· ≤ ·) → (insN x l).Pairwise (· ≤ ·)
  | [], _ => List.pairwise_singleton _ _
  | y :: r, h => by
    obtain ⟨h1, h2⟩ := List.pairwise_cons.mp h
    unfold insN
    split
    · rename_i hxy
      have hxy := Nat.le_of_ble_eq_true hxy
      refine List.pairwise_cons.mpr ⟨fun z hz => ?_, h⟩
      rcases List.mem_cons.mp hz with rfl | hz
      · exact hxy
      · exact Nat.le_trans hxy (h1 z hz)
    · rename_i hxy
      have hyx : y ≤ x := by
        rcases Nat.le_total x y with h3 | h3
        · exact absurd (Nat.ble_eq.mpr h3) hxy
        · exact h3
      refine List.pairwise_cons.mpr ⟨fun z hz => ?_, insN_sorted x r h2⟩
      rcases List.mem_cons.mp ((insN_perm x r).mem_iff.mp hz) with rfl | hz
      · exact hyx
      · exact h1 z hz
theorem isortN_sorted : ∀ l : List Nat, (isortN l).Pairwise (· ≤ ·)
  | [] => .nil
  | x :: r => insN_sorted x _ (isortN_sorted r)
/-- one game day of the last: the next list -/
def nextN (i : List Nat) (W : Nat) : List Nat := i.take W ++ (i.drop W).map (· - 1)
def stepOK (s : List Nat) : Bool := Nat.ble (s.getLastD 0) s.dropLast.length && ((s.dropLast.drop (s.getLastD 0)).all (Nat.ble 1) && landG (isortN (nextN s.dropLast (s.getLastD 0))) 0 0)
/-- all sorted lists with numbers up to 7 that pass -/
def listsN : Nat → Nat → Nat → Nat → List (List Nat)
  | 0, _, sum, cnt => if Nat.beq sum (tri cnt) = true then [[]] else []
  | k + 1, lo, sum, cnt => (List.range (8 - lo)).flatMap fun d => if Nat.ble (tri (cnt + 1)) (sum + (lo + d)) = true then (listsN k (lo + d) (sum + (lo + d)) (cnt + 1)).map (fun r => (lo + d) :: r) else []
theorem listsN_mem : ∀ (s : List Nat) (lo sum cnt : Nat), (lo :: s).Pairwise (· ≤ ·) → (∀ x ∈ s, x ≤ 7) → landG s sum cnt = true → s ∈ listsN s.length lo sum cnt
  | [], lo, sum, cnt, _, _, h => by
    show [] ∈ if Nat.beq sum (tri cnt) = true then [[]] else []
    have h' : Nat.beq sum (tri cnt) = true := h
    rw [if_pos h']; exact List.mem_cons_self
  | x :: r, lo, sum, cnt, hs, hb, h => by
    obtain ⟨h1, h2⟩ := List.pairwise_cons.mp hs
    have hlo := h1 x List.mem_cons_self
    have hx := hb x List.mem_cons_self
    simp only [landG, Bool.and_eq_true] at h
    have ih := listsN_mem r x (sum + x) (cnt + 1) h2 (fun z hz => hb z (List.mem_cons_of_mem _ hz)) h.2
    refine List.mem_flatMap.mpr ⟨x - lo, List.mem_range.mpr (by omega), ?_⟩
    rw [show lo + (x - lo) = x by omega, if_pos h.1]
    exact List.mem_map.mpr ⟨r, ih, rfl⟩
theorem ok1 : (listsN 1 0 0 0).all stepOK = true := by decide +kernel
theorem ok2 : (listsN 2 0 0 0).all stepOK = true := by decide +kernel
theorem ok3 : (listsN 3 0 0 0).all stepOK = true := by decide +kernel
theorem ok4 : (listsN 4 0 0 0).all stepOK = true := by decide +kernel
theorem ok5 : (listsN 5 0 0 0).all stepOK = true := by decide +kernel
theorem ok6 : (listsN 6 0 0 0).all stepOK = true := by decide +kernel
theorem ok7 : (listsN 7 0 0 0).all stepOK = true := by decide +kernel
theorem ok8 : (listsN 8 0 0 0).all stepOK = true := by decide +kernel
theorem ok_all {s : List Nat} (h1 : 1 ≤ s.length) (h8 : s.length ≤ 8) (hs : s.Pairwise (· ≤ ·)) (hb : ∀ x ∈ s, x ≤ 7) (h : landG s 0 0 = true) : stepOK s = true := by
  have hm := listsN_mem s 0 0 0 (List.pairwise_cons.mpr ⟨fun _ _ => Nat.zero_le _, hs⟩) hb h
  have hl : s.length = 1 ∨ s.length = 2 ∨ s.length = 3 ∨ s.length = 4 ∨ s.length = 5 ∨ s.length = 6 ∨ s.length = 7 ∨ s.length = 8 := by omega
  rcases hl with e | e | e | e | e | e | e | e <;> rw [e] at hm
  · exact List.all_eq_true.mp ok1 s hm
  · exact List.all_eq_true.mp ok2 s hm
  · exact List.all_eq_true.mp ok3 s hm
  · exact List.all_eq_true.mp ok4 s hm
  · exact List.all_eq_true.mp ok5 s hm
  · exact List.all_eq_true.mp ok6 s hm
  · exact List.all_eq_true.mp ok7 s hm
  · exact List.all_eq_true.mp ok8 s hm
theorem landG_of : ∀ (l : List Nat) (sum cnt : Nat), (∀ j, j < l.length → tri (cnt + j + 1) ≤ sum + (l.take (j + 1)).sum) → sum + l.sum = tri (cnt + l.length) → landG l sum cnt = true
  | [], sum, cnt, _, h => by
    show Nat.beq sum (tri cnt) = true
    simpa using h
  | x :: r, sum, cnt, h, ht => by
    simp only [landG, Bool.and_eq_true, Nat.ble_eq]
    refine ⟨?_, landG_of r _ _ (fun j hj => ?_) ?_⟩
    · have := h 0 (by simp)
      simpa using this
    · have := h (j + 1) (by simp only [List.length_cons]; omega)
      rw [List.take_succ_cons, List.sum_cons] at this
      rw [show cnt + 1 + j + 1 = cnt + (j + 1) + 1 by omega]
      omega
    · rw [List.sum_cons, List.length_cons] at ht
      rw [show cnt + 1 + r.length = cnt + (r.length + 1) by omega]
      omega
end Mine
end
section
open PySem PySem.W PyProof.Rows
namespace Mine
/-! Landau: the building and the sums -/
theorem sorted_sameI {a b : List Int} (hp : a.Perm b) (ha : a.Pairwise (· ≤ ·)) (hb : b.Pairwise (· ≤ ·)) : a = b :=
  List.Perm.eq_of_pairwise (fun _ _ _ _ h1 h2 => Int.le_antisymm h1 h2) ha hb hp
/-- the wins of those left, sorted, pass -/
def GoodL (wins : List Int) (left : List Nat) : Prop :=
  ∃ s : List Nat, s.Pairwise (· ≤ ·) ∧ (∀ x ∈ s, x ≤ 7) ∧ landG s 0 0 = true ∧ (s.map cI).Perm (left.map fun x => wins.getD x 0)
theorem lex_le {a b c d : Int} (h : lexLt (a, b) (c, d) = true) : a ≤ c := by
  unfold lexLt at h
  simp only [Bool.or_eq_true, Bool.and_eq_true, decide_eq_true_eq] at h
  omega
theorem GoodL.vals {wins : List Int} {left left1 : List Nat} (H : GoodL wins left) (hp : left1.Perm left) (hs : LgSorted wins left1) :
    ∃ s : List Nat, s.Pairwise (· ≤ ·) ∧ (∀ x ∈ s, x ≤ 7) ∧ landG s 0 0 = true ∧ left1.map (fun x => wins.getD x 0) = s.map cI := by
  obtain ⟨s, h1, h2, h3, h4⟩ := H
  refine ⟨s, h1, h2, h3, sorted_sameI ((hp.map _).trans h4.symm) ?_ ?_⟩
  · rw [List.pairwise_map]
    exact hs.imp fun h => lex_le h
  · rw [List.pairwise_map]
    exact h1.imp fun h => Int.ofNat_le.mpr h
/-- the last one can play: so many as it has to win are there, and the others go on -/
theorem GoodL.play {wins : List Int} {left init : List Nat} {F : Nat} (H : GoodL wins left) (hp : (init ++ [F]).Perm left) (hs : LgSorted wins (init ++ [F])) (h8 : left.length ≤ 8) :
    ∃ s' : List Nat, ∃ W : Nat, init.map (fun x => wins.getD x 0) = s'.map cI ∧ wins.getD F 0 = (W : Int) ∧ W ≤ init.length ∧ (∀ x ∈ s', x ≤ 7) ∧ (∀ x ∈ s'.drop W, 1 ≤ x) ∧ landG (isortN (nextN s' W)) 0 0 = true := by
  obtain ⟨s, h1, h2, h3, h4⟩ := H.vals hp hs
  have hl : s.length = init.length + 1 := by
    have := congrArg List.length h4
    simp only [List.length_map, List.length_append, List.length_cons, List.length_nil] at this
    omega
  have hll : left.length = init.length + 1 := by rw [← hp.length_eq, List.length_append]; rfl
  have hne : s ≠ [] := by intro e; rw [e] at hl; simp at hl
  obtain ⟨s', W, rfl⟩ : ∃ s' W, s = s' ++ [W] := ⟨s.dropLast, s.getLast hne, (List.dropLast_concat_getLast hne).symm⟩
  have hok := ok_all (by omega) (by omega) h1 h2 h3
  unfold stepOK at hok
  rw [List.dropLast_concat, List.getLastD_eq_getLast?, List.getLast?_concat, Option.getD_some] at hok
  simp only [Bool.and_eq_true, Nat.ble_eq, List.all_eq_true] at hok
  rw [List.map_append, List.map_append] at h4
  have h5 := List.append_inj' h4 rfl
  have hsl : s'.length = init.length := by
    rw [List.length_append] at hl
    simp only [List.length_cons, List.length_nil] at hl
    omega
  refine ⟨s', W, h5.1, ?_, by rw [← hsl]; exact hok.1, fun x hx => h2 x (List.mem_append_left _ hx), hok.2.1, hok.2.2⟩
  have := h5.2
  simp only [List.map_cons, List.map_nil, List.cons.injEq, and_true] at this
  exact this
theorem next_vals {wins : List Int} {init : List Nat} {s' : List Nat} {W : Nat} (hn : init.Nodup) (hb : ∀ x ∈ init, x < wins.length) (h : init.map (fun x => wins.getD x 0) = s'.map cI) (h1 : ∀ x ∈ s'.drop W, 1 ≤ x) :
    init.map (fun x => (decrI wins ((init.drop W).map cI)).getD x 0) = (nextN s' W).map cI := by
  have hd : ∀ x, (decrI wins ((init.drop W).map cI)).getD x 0 = wins.getD x 0 - (if x ∈ init.drop W then 1 else 0) := fun x =>
    decr_getD _ _ x (hn.sublist (List.drop_sublist _ _)) fun y hy => hb y (List.mem_of_mem_drop hy)
  have hsplit : init = init.take W ++ init.drop W := (List.take_append_drop W init).symm
  have hdis : ∀ x ∈ init.take W, x ∉ init.drop W := fun x hx hy => by
    rw [hsplit] at hn
    exact (List.nodup_append.mp hn).2.2 x hx x hy rfl
  have ht : (init.take W).map (fun x => wins.getD x 0) = (s'.take W).map cI := by rw [List.map_take, List.map_take, h]
  have hdr : (init.drop W).map (fun x => wins.getD x 0) = (s'.drop W).map cI := by rw [List.map_drop, List.map_drop, h]
  unfold nextN
  rw [List.map_append, ← ht, List.map_map]
  conv => lhs; arg 2; rw [hsplit]
  rw [List.map_append]
  congr 1
  · refine List.map_congr_left fun x hx => ?_
    rw [hd, if_neg (hdis x hx), Int.sub_zero]
  · have e : (init.drop W).map (fun x => (decrI wins ((init.drop W).map cI)).getD x 0) = ((init.drop W).map fun x => wins.getD x 0).map (· - 1) := by
      rw [List.map_map]
      refine List.map_congr_left fun x hx => ?_
      rw [hd, if_pos hx]; rfl
    rw [e, hdr, List.map_map]
    refine List.map_congr_left fun x hx => ?_
    have := h1 x hx
    show ((x : Int)) - 1 = ((x - 1 : Nat) : Int)
    omega
theorem LgR.good {row : List Int} (h8 : row.length ≤ 8) (h0 : GoodL row (List.range row.length)) {wins : List Int} {left : List Nat} {ts : List (Int × Int)} (h : LgR row wins left ts) :
    LgI row wins left ∧ left.length ≤ 8 ∧ GoodL wins left := by
  refine LgR.plain (P := fun wins left _ => LgI row wins left ∧ left.length ≤ 8 ∧ GoodL wins left) ⟨LgI.start row, by rw [List.length_range]; exact h8, h0⟩ ?_ h
  rintro wins left init F W ts ⟨hI, hl, hG⟩ hp hs hW hWl
  obtain ⟨hI', hn, hF, hFl, hb⟩ := hI.step (W := W) hp
  obtain ⟨s', W', e1, e2, e3, e4, e5, e6⟩ := hG.play hp hs hl
  have hWW : W' = W := by rw [hW] at e2; exact (Int.ofNat.inj e2).symm
  subst hWW
  have hll : left.length = init.length + 1 := by rw [← hp.length_eq, List.length_append]; rfl
  refine ⟨hI', by omega, isortN (nextN s' W'), isortN_sorted _, fun x hx => ?_, e6, ?_⟩
  · have hx' := (isortN_perm _).mem_iff.mp hx
    unfold nextN at hx'
    rcases List.mem_append.mp hx' with h1 | h1
    · exact e4 x (List.mem_of_mem_take h1)
    · obtain ⟨y, hy, rfl⟩ := List.mem_map.mp h1
      have := e4 y (List.mem_of_mem_drop hy)
      omega
  · rw [next_vals hn hb e1 e5]
    exact (isortN_perm _).map _
/-- what the sums say -/
def Enough (m : Nat) (rs : List Nat) : Prop := (∀ j, j < m → j * (j + 1) / 2 ≤ (rs.take (j + 1)).sum) ∧ rs.sum = m * (m - 1) / 2
theorem tri_need (j : Nat) : j * (j + 1) / 2 = tri (j + 1) := by unfold tri; rw [Nat.add_sub_cancel, Nat.mul_comm]
theorem row_self (row : List Int) : (List.range row.length).map (fun x => row.getD x 0) = row := by
  refine List.ext_getElem (by simp) fun i h1 h2 => ?_
  simp only [List.getElem_map, List.getElem_range, List.getD_eq_getElem?_getD, List.getElem?_eq_getElem h2, Option.getD_some]
theorem good_start {row rs : List Nat} {m : Nat} (hm : row.length = m) (h8 : m ≤ 8) (hb : ∀ x ∈ row, x < m) (hp : rs.Perm row) (hs : rs.Pairwise (· ≤ ·)) (hE : Enough m rs) : GoodL (row.map cI) (List.range (row.map cI).length) := by
  refine ⟨rs, hs, fun x hx => ?_, landG_of rs 0 0 (fun j hj => ?_) ?_, ?_⟩
  · have := hb x (hp.mem_iff.mp hx); omega
  · rw [hp.length_eq, hm] at hj
    have := hE.1 j hj
    rw [tri_need] at this
    rw [Nat.zero_add, Nat.zero_add]; exact this
  · rw [Nat.zero_add, Nat.zero_add, hE.2, hp.length_eq, hm]; rfl
  · rw [row_self]; exact hp.map _
/-- the players in order -/
theorem order_vals {row rs : List Nat} {o : List Nat} (hp : rs.Perm row) (hs : rs.Pairwise (· ≤ ·)) (ho : o.Perm (List.range row.length)) (hos : LgSorted (row.map cI) o) : o.map (fun x => (row.map cI).getD x 0) = rs.map cI := by
  refine sorted_sameI ?_ ?_ ?_
  · have h1 := ho.map fun x => (row.map cI).getD x 0
    have h2 := row_self (row.map cI)
    rw [List.length_map] at h2
    rw [h2] at h1
    exact h1.trans (hp.map cI).symm
  · rw [List.pairwise_map]
    exact hos.imp fun h => lex_le h
  · rw [List.pairwise_map]
    exact hs.imp fun h => Int.ofNat_le.mpr h
theorem sum_castI (l : List Nat) : (l.map cI).sum = ((l.sum : Nat) : Int) := by
  induction l with
  | nil => rfl
  | cons x r ih => rw [List.map_cons, List.sum_cons, List.sum_cons, ih]; show (x : Int) + _ = _; omega
/-- the first k in order: their sum is what they have played among them, and what they have won outside -/
theorem order_sum {row rs : List Nat} {o : List Nat} {wins : List Int} {ts : List (Int × Int)} (hp : rs.Perm row) (hs : rs.Pairwise (· ≤ ·)) (ho : o.Perm (List.range row.length)) (hos : LgSorted (row.map cI) o)
    (h : LgR (row.map cI) wins [] ts) {k : Nat} (hk : k ≤ row.length) : (rs.take k).sum = tri k + outN (fun x => decide (x ∈ o.take k)) ts := by
  obtain ⟨_, h1, h2⟩ := h.count fun x => decide (x ∈ o.take k)
  rw [List.length_map] at h1 h2
  have hnd : o.Nodup := ho.nodup_iff.mpr List.nodup_range
  have hP : ((List.range row.length).filter fun x => decide (x ∈ o.take k)).Perm (o.take k) := by
    refine (List.perm_ext_iff_of_nodup (List.nodup_range.sublist List.filter_sublist) (hnd.sublist (List.take_sublist _ _))).mpr fun x => ?_
    rw [List.mem_filter, decide_eq_true_eq]
    exact ⟨fun h => h.2, fun h => ⟨ho.mem_iff.mp (List.mem_of_mem_take h), h⟩⟩
  have hl : ((List.range row.length).filter fun x => decide (x ∈ o.take k)).length = k := by
    rw [hP.length_eq, List.length_take, ho.length_eq, List.length_range]; omega
  have hsum : isum' (row.map cI) ((List.range row.length).filter fun x => decide (x ∈ o.take k)) = (((rs.take k).sum : Nat) : Int) := by
    rw [isum'_perm hP]
    unfold isum'
    rw [List.map_take, order_vals hp hs ho hos, ← List.map_take, sum_castI]
  rw [hsum] at h1
  rw [hl] at h2
  have h3 := won_in_out (fun x => decide (x ∈ o.take k)) ts
  have e0 : isum' wins (([] : List Nat).filter fun x => decide (x ∈ o.take k)) = 0 := rfl
  have e1 : tri (([] : List Nat).filter fun x => decide (x ∈ o.take k)).length = 0 := by simp [tri]
  omega
theorem tri_pos {m : Nat} (h5 : 5 ≤ m) : 0 < tri m := by
  obtain ⟨n, rfl⟩ : ∃ n, m = n + 2 := ⟨m - 2, by omega⟩
  rw [tri_succ]; omega
/-- a league stands if and only if the sums are enough -/
theorem landau {m : Nat} {row rs : List Nat} {ts : List (Int × Int)} (hm : row.length = m) (h5 : 5 ≤ m) (h8 : m ≤ 8) (hb : ∀ x ∈ row, x < m) (hp : rs.Perm row) (hs : rs.Pairwise (· ≤ ·)) (h : LgDone (row.map cI) ts) :
    (ts ≠ [] ↔ Enough m rs) ∧ (ts ≠ [] → ∃ wins, LgR (row.map cI) wins [] ts) := by
  have h8' : (row.map cI).length ≤ 8 := by rw [List.length_map]; omega
  rcases h with ⟨wins, hR⟩ | ⟨rfl, wins, left, left1, ts0, FI, hR, hpl, hsl, hl0, hFI, hbad⟩
  · refine ⟨⟨fun _ => ?_, fun _ => ?_⟩, fun _ => ⟨wins, hR⟩⟩
    · obtain ⟨o, ho, hos⟩ : ∃ o : List Nat, o.Perm (List.range row.length) ∧ LgSorted (row.map cI) o := by
        obtain ⟨o, ho⟩ : ∃ o : List Nat, o = (List.range row.length).mergeSort (fun x y => lexLt ((row.map cI).getD x 0, (x : Int)) ((row.map cI).getD y 0, (y : Int)) || decide (x = y)) := ⟨_, rfl⟩
        have hP : o.Perm (List.range row.length) := ho ▸ List.mergeSort_perm _ _
        refine ⟨o, hP, ?_⟩
        have hnd : o.Nodup := hP.nodup_iff.mpr List.nodup_range
        have hS : o.Pairwise (fun x y => (lexLt ((row.map cI).getD x 0, (x : Int)) ((row.map cI).getD y 0, (y : Int)) || decide (x = y)) = true) := by
          rw [ho]
          refine List.pairwise_mergeSort ?_ ?_ _
          · intro a b c h1 h2
            by_cases hab : a = b
            · rw [hab]; exact h2
            by_cases hbc : b = c
            · rw [← hbc]; exact h1
            simp only [lexLt, Bool.or_eq_true, Bool.and_eq_true, decide_eq_true_eq] at h1 h2 ⊢
            omega
          · intro a b
            simp only [lexLt, Bool.or_eq_true, Bool.and_eq_true, decide_eq_true_eq]
            omega
        refine (List.Pairwise.and hS hnd).imp fun h => ?_
        have := h.1
        simp only [Bool.or_eq_true, decide_eq_true_eq] at this
        exact this.resolve_right h.2
      refine ⟨fun j hj => ?_, ?_⟩
      · rw [order_sum hp hs ho hos hR (show j + 1 ≤ row.length by omega), tri_need]
        exact Nat.le_add_right _ _
      · obtain ⟨_, h2, h3⟩ := hR.count fun _ => true
        rw [List.filter_eq_self.mpr fun _ _ => rfl, List.filter_eq_self.mpr fun _ _ => rfl] at h2 h3
        have e1 : wonN (fun _ => true) ts = ts.length := List.countP_eq_length.mpr fun _ _ => rfl
        have e2 : inN (fun _ => true) ts = ts.length := List.countP_eq_length.mpr fun _ _ => rfl
        have e3 : isum' (row.map cI) (List.range (row.map cI).length) = ((rs.sum : Nat) : Int) := by
          unfold isum'
          rw [row_self, ← sum_castI]
          exact sum_perm (hp.map cI).symm
        have e4 : isum' wins [] = 0 := rfl
        have e5 : tri ([] : List Nat).length = 0 := rfl
        rw [List.length_range, List.length_map, hm] at h3
        rw [e3] at h2
        show rs.sum = tri m
        omega
    · rintro rfl
      obtain ⟨_, _, h3⟩ := hR.count fun _ => true
      have := tri_pos h5
      rw [List.filter_eq_self.mpr fun _ _ => rfl, List.filter_eq_self.mpr fun _ _ => rfl, List.length_range, List.length_map, hm] at h3
      have e : inN (fun _ => true) [] = 0 := rfl
      have e2 : tri ([] : List Nat).length = 0 := rfl
      omega
  · refine ⟨⟨fun h => absurd rfl h, fun hE => ?_⟩, fun h => absurd rfl h⟩
    exfalso
    obtain ⟨hI, hl8, hG⟩ := hR.good h8' (good_start hm h8 hb hp hs hE)
    have hne : left1 ≠ [] := by intro e; rw [e] at hpl; rw [← hpl.length_eq] at hl0; simp at hl0
    obtain ⟨init, F, rfl⟩ : ∃ init F, left1 = init ++ [F] := ⟨left1.dropLast, left1.getLast hne, (List.dropLast_concat_getLast hne).symm⟩
    obtain ⟨s', W, _, e2, e3, _⟩ := hG.play hpl hsl hl8
    have eF : FI = (F : Int) := by
      rw [← hFI, List.map_append, List.map_cons, List.map_nil, List.getLastD_eq_getLast?, List.getLast?_concat]; rfl
    refine hbad ?_
    rw [eF, Int.toNat_natCast, e2, List.map_append, List.map_cons, List.map_nil, List.dropLast_concat, List.length_map]
    omega
end Mine
end
section
open PySem PySem.W PyProof.Rows
namespace Mine
/-! the numbers that the law of leagues builds -/
theorem many_of {vs : List Value} {ns : List Int} (_ : IntsAre vs ns) : ∃ mm : Nat, (5 : Int) + (2 + (ns.length : Int)).fmod 4 = (mm : Int) ∧ 5 ≤ mm ∧ mm ≤ 8 := by
  rw [fmod_pos (by decide)]
  exact ⟨(5 + (2 + (ns.length : Int)) % 4).toNat, by omega, by omega, by omega⟩
theorem drawn_of {ws : List Value} {ns : List Int} {mm : Nat} (h : IntsAre ws (ns.take ((mm : Nat) : Int).toNat)) (_ : mm ≤ 8) : ∃ dr : List Int, IntsAre ws dr ∧ dr.length ≤ mm := by
  refine ⟨_, h, ?_⟩
  rw [List.length_take, Int.toNat_natCast]; omega
end Mine
namespace Mine
theorem ints8 {t1 t2 t3 t4 t5 t6 t7 t8 : Tok} : IntsAre [.int 1 t1, .int 2 t2, .int 3 t3, .int 3 t4, .int 4 t5, .int 2 t6, .int 6 t7, .int 5 t8] [1, 2, 3, 3, 4, 2, 6, 5] :=
  .cons _ _ (.cons _ _ (.cons _ _ (.cons _ _ (.cons _ _ (.cons _ _ (.cons _ _ (.cons _ _ .nil)))))))
theorem fill_of {dv ev : List Value} {dr : List Int} {mm : Nat} (hd : IntsAre dv dr) (hl : dr.length ≤ mm) (h8 : mm ≤ 8)
    (he : IntsAre ev (([1, 2, 3, 3, 4, 2, 6, 5].drop ((dv.length : Nat) : Int).toNat).take (min ((mm : Nat) : Int).toNat ([1, 2, 3, 3, 4, 2, 6, 5] : List Int).length - ((dv.length : Nat) : Int).toNat))) :
    ∃ el : List Int, IntsAre ev el ∧ (dr ++ el).length = mm := by
  refine ⟨_, he, ?_⟩
  have h1 := hd.length
  simp only [List.length_append, List.length_take, List.length_drop, Int.toNat_natCast, List.length_cons, List.length_nil]
  omega
theorem wins_of {wv : List Value} {ls : List Int} {mm n : Nat} (hn : n = ls.length) (hl : ls.length = mm) (h5 : 5 ≤ mm) (h : IntsAre wv ((List.range n).map fun i => (ls.getD i 0).fmod (mm : Int))) :
    ∃ wn : List Int, IntsAre wv wn ∧ wn.length = mm ∧ ∀ x ∈ wn, 0 ≤ x ∧ x < (mm : Int) := by
  refine ⟨_, h, by rw [List.length_map, List.length_range]; omega, fun x hx => ?_⟩
  obtain ⟨i, _, rfl⟩ := List.mem_map.mp hx
  rw [fmod_pos (by omega)]
  exact ⟨Int.emod_nonneg _ (by omega), Int.emod_lt_of_pos _ (by omega)⟩
theorem games_of {mm : Nat} (h5 : 5 ≤ mm) : ((mm : Int) * ((mm : Int) - 1)).fdiv 2 = ((mm * (mm - 1) / 2 : Nat) : Int) := by
  rw [fdiv_pos (by decide), Int.natCast_ediv, Int.natCast_mul, Int.natCast_sub (by omega)]; rfl
theorem last_ok {wn : List Int} {mm : Nat} (hl : wn.length = mm) (h5 : 5 ≤ mm) (hb : ∀ x ∈ wn, 0 ≤ x ∧ x < (mm : Int)) :
    (wn.drop (wn.length - (-(-1 : Int)).toNat)).length = 1 ∧ 0 ≤ (wn.drop (wn.length - (-(-1 : Int)).toNat)).getD 0 0 ∧ (wn.drop (wn.length - (-(-1 : Int)).toNat)).getD 0 0 < (mm : Int) := by
  have e : (-(-1 : Int)).toNat = 1 := rfl
  rw [e]
  have h1 : (wn.drop (wn.length - 1)).length = 1 := by rw [List.length_drop]; omega
  refine ⟨h1, ?_⟩
  have h2 : (wn.drop (wn.length - 1)).getD 0 0 ∈ wn := by
    rw [List.getD_eq_getElem?_getD, List.getElem?_eq_getElem (by omega)]
    exact List.mem_of_mem_drop (List.getElem_mem _)
  exact hb _ h2
theorem row_of {av : List Value} {wn : List Int} {mm : Nat} {x : Int} {t : Tok} (h : IntsAre av (wn.take (wn.length - (-(-1 : Int)).toNat))) (hl : wn.length = mm) (h5 : 5 ≤ mm) (hb : ∀ x ∈ wn, 0 ≤ x ∧ x < (mm : Int)) (hx : 0 ≤ x ∧ x < (mm : Int)) :
    ∃ row : List Nat, IntsAre (av ++ [Value.int x t]) (row.map fun (n : Nat) => (n : Int)) ∧ row.length = mm ∧ ∀ n ∈ row, n < mm := by
  have e : (-(-1 : Int)).toNat = 1 := rfl
  rw [e] at h
  have h1 : IntsAre (av ++ [Value.int x t]) (wn.take (wn.length - 1) ++ [x]) := h.append (.cons _ _ .nil)
  have h2 : ∀ z ∈ wn.take (wn.length - 1) ++ [x], 0 ≤ z ∧ z < (mm : Int) := fun z hz => by
    rcases List.mem_append.mp hz with hz | hz
    · exact hb z (List.mem_of_mem_take hz)
    · rw [List.mem_singleton.mp hz]; exact hx
  have h3 : (wn.take (wn.length - 1) ++ [x]).length = mm := by simp only [List.length_append, List.length_take, List.length_cons, List.length_nil]; omega
  generalize wn.take (wn.length - 1) ++ [x] = ls at h1 h2 h3
  refine ⟨ls.map Int.toNat, ?_, by rw [List.length_map]; exact h3, fun n hn => ?_⟩
  · rw [List.map_map]
    have e2 : ls.map ((fun (n : Nat) => (n : Int)) ∘ Int.toNat) = ls := by
      refine (List.map_congr_left fun z hz => ?_).trans (List.map_id _)
      exact Int.toNat_of_nonneg (h2 z hz).1
    rw [e2]; exact h1
  · obtain ⟨z, hz, rfl⟩ := List.mem_map.mp hn
    have := h2 z hz
    omega
theorem wide_of (S : Int) : ∃ ww : Nat, 9 + (691 + S).fmod 1200 = (ww : Int) ∧ 9 ≤ ww ∧ ww ≤ 1208 := by
  rw [fmod_pos (by decide)]
  exact ⟨(9 + (691 + S) % 1200).toNat, by omega, by omega, by omega⟩
theorem room_of (mm ww : Nat) (S : Int) : ∃ rm : Nat, (mm : Int) * (ww : Int) + 8 + S.fmod 16 = (rm : Int) ∧ mm * ww + 8 ≤ rm ∧ rm ≤ mm * ww + 23 := by
  rw [fmod_pos (by decide), ← Int.natCast_mul]
  generalize mm * ww = z
  exact ⟨((z : Int) + 8 + S % 16).toNat, by omega, by omega, by omega⟩
theorem common_of {mm ww rm : Nat} (A : Int) (h8 : mm ≤ 8) (hw : ww ≤ 1208) (h5 : 5 ≤ mm) (h9 : 9 ≤ ww) (h1 : mm * ww + 8 ≤ rm) (h2 : rm ≤ mm * ww + 23) :
    ∃ cm : Int, (1 : Int) * 2 ^ ((rm : Nat) : Int).toNat - (1 + 2 * A.fmod 1000) = cm ∧ 2 ^ (mm * ww + 7) ≤ cm ∧ cm < 2 ^ 20000 := by
  refine ⟨_, rfl, ?_, ?_⟩
  · rw [Int.toNat_natCast, fmod_pos (by decide)]
    have e1 : (2 : Int) ^ (mm * ww + 8) ≤ 2 ^ rm := pow2_le h1
    have e2 : (2 : Int) ^ (mm * ww + 8) = 2 ^ (mm * ww + 7) * 2 := Int.pow_succ 2 _
    have e3 : (2 : Int) ^ 11 ≤ 2 ^ (mm * ww + 7) := pow2_le (by have := Nat.mul_le_mul h5 h9; omega)
    have e4 : (2 : Int) ^ 11 = 2048 := by decide
    omega
  · rw [Int.toNat_natCast, fmod_pos (by decide)]
    have e1 : (2 : Int) ^ rm ≤ 2 ^ 20000 := pow2_le (by have := Nat.mul_le_mul h8 hw; omega)
    omega
theorem sorted_nat {rsv : List Value} {rsI : List Int} {row : List Nat} (h : IntsAre rsv rsI) (hp : rsI.Perm (row.map fun (n : Nat) => (n : Int))) (ho : rsI.Pairwise (· ≤ ·)) :
    ∃ rs : List Nat, IntsAre rsv (rs.map fun (n : Nat) => (n : Int)) ∧ rs.Perm row ∧ rs.Pairwise (· ≤ ·) := by
  have h1 : ∀ z ∈ rsI, ∃ n : Nat, z = (n : Int) := fun z hz => by
    obtain ⟨n, _, rfl⟩ := List.mem_map.mp (hp.mem_iff.mp hz)
    exact ⟨n, rfl⟩
  have e : (rsI.map Int.toNat).map (fun (n : Nat) => (n : Int)) = rsI := by
    rw [List.map_map]
    refine (List.map_congr_left fun z hz => ?_).trans (List.map_id _)
    obtain ⟨n, rfl⟩ := h1 z hz
    simp
  refine ⟨rsI.map Int.toNat, by rw [e]; exact h, ?_, ?_⟩
  · have := hp.map Int.toNat
    rw [List.map_map] at this
    have e2 : row.map (Int.toNat ∘ fun (n : Nat) => (n : Int)) = row := by
      refine (List.map_congr_left fun z _ => ?_).trans (List.map_id _)
      simp
    rw [e2] at this
    exact this
  · rw [List.pairwise_map]
    refine ho.imp_of_mem fun {a b} ha hb hab => ?_
    obtain ⟨n, rfl⟩ := h1 a ha
    obtain ⟨k, rfl⟩ := h1 b hb
    simpa using hab
theorem rest_nil {h₀ h : Heap} {L c : Addr} {T : List (Addr × Obj)} {o : Obj} (_ : News h₀ L h T) (_ : (c, o) ∈ T) : ∀ p ∈ ([] : List (Addr × Obj)), p.1 ≠ c := List.forall_mem_nil _
theorem rest_l {h₀ h : Heap} {L c a : Addr} {T R : List (Addr × Obj)} {o : Obj} {xs : Array Value} {k : Nat} {v : Option Value} (N : News h₀ L h T) (hc : (c, o) ∈ T) (hd : o.data = .cell v) (h1 : (a, listOf xs k) ∈ T) (r : ∀ p ∈ R, p.1 ≠ c) : ∀ p ∈ (a, listOf xs k) :: R, p.1 ≠ c :=
  List.forall_mem_cons.mpr ⟨apart_cell N h1 hc hd, r⟩
theorem rest_c {h₀ h : Heap} {L c a : Addr} {T R : List (Addr × Obj)} {o : Obj} (_ : News h₀ L h T) (_ : (a, o) ∈ T) (h1 : (a : Nat) ≠ c) (r : ∀ p ∈ R, p.1 ≠ c) : ∀ p ∈ (a, o) :: R, p.1 ≠ c := List.forall_mem_cons.mpr ⟨h1, r⟩
/-! the loop -/
structure WS where
  c : Obj
  w : Int
  tw : Tok
  l : Int
  tl : Tok
  s : Int
  ts : Tok
  n : Int
  tn : Tok
structure WP (ww : Nat) (row rs : List Nat) (i : Nat) (c : WS) : Prop where
  d : ∃ v, c.c.data = .cell v
  w : c.w = ((wordN (2 ^ ww) (row.take i) : Nat) : Int)
  l : c.l = ((wordN (2 ^ ww) (rs.take i) : Nat) : Int)
  s : c.s = ((WN ww i (fun j => (rs.take (j + 1)).sum) : Nat) : Int)
  n : c.n = ((WN ww i (fun j => j * (j + 1) / 2) : Nat) : Int)
theorem getD_cast {l : List Nat} {i : Nat} (hi : i < l.length) : (l.map fun (n : Nat) => (n : Int)).getD ((0 : Int) + (i : Int)).toNat 0 = ((l.getD i 0 : Nat) : Int) := by
  rw [tn_zero]; simp [List.getD_eq_getElem?_getD, hi]
theorem step_w {ww i : Nat} {l : List Nat} {x : Int} (hi : i < l.length) (h : x = ((wordN (2 ^ ww) (l.take i) : Nat) : Int)) :
    x * 2 ^ ((ww : Nat) : Int).toNat + (l.map fun (n : Nat) => (n : Int)).getD ((0 : Int) + (i : Int)).toNat 0 = ((wordN (2 ^ ww) (l.take (i + 1)) : Nat) : Int) := by
  rw [getD_cast hi, h, take_snoc l 0 hi, wordN_snoc, Int.toNat_natCast, mul_pow_nat]; omega
theorem step_s {ww i : Nat} {rs : List Nat} {x : Int} (h : x = ((WN ww i (fun j => (rs.take (j + 1)).sum) : Nat) : Int)) :
    x * 2 ^ ((ww : Nat) : Int).toNat + ((rs.map fun (n : Nat) => (n : Int)).take (((0 : Int) + (i : Int)) + 1).toNat).sum = ((WN ww (i + 1) (fun j => (rs.take (j + 1)).sum) : Nat) : Int) := by
  have e : (((0 : Int) + (i : Int)) + 1).toNat = i + 1 := by omega
  rw [e, h, WN_succ, Int.toNat_natCast, mul_pow_nat, ← List.map_take]
  have := sum_castI (rs.take (i + 1))
  unfold cI at this
  rw [this]; omega
theorem step_n {ww i : Nat} {x : Int} (h : x = ((WN ww i (fun j => j * (j + 1) / 2) : Nat) : Int)) :
    x * 2 ^ ((ww : Nat) : Int).toNat + (((0 : Int) + (i : Int)) * (((0 : Int) + (i : Int)) + 1)).fdiv 2 = ((WN ww (i + 1) (fun j => j * (j + 1) / 2) : Nat) : Int) := by
  rw [h, WN_succ, Int.toNat_natCast, mul_pow_nat, fdiv_pos (by decide), Int.zero_add]
  have e : ((i : Int) * ((i : Int) + 1)) / 2 = ((i * (i + 1) / 2 : Nat) : Int) := by rw [Int.natCast_ediv, Int.natCast_mul]; rfl
  rw [e]; omega
theorem wp0 {ww : Nat} {row rs : List Nat} {c : Obj} {t1 t2 t3 t4 : Tok} {v : Option Value} (h : c.data = .cell v) : WP ww row rs 0 ⟨c, 0, t1, 0, t2, 0, t3, 0, t4⟩ :=
  ⟨⟨v, h⟩, rfl, rfl, rfl, rfl⟩
end Mine
end
section
open PySem PySem.W PyProof.Rows
namespace Mine
/-! the numbers of the law's own body -/
theorem list_sum_le {m : Nat} : ∀ l : List Nat, (∀ x ∈ l, x < m) → l.sum ≤ l.length * m
  | [], _ => Nat.zero_le _
  | x :: r, h => by
    have h1 := list_sum_le r fun z hz => h z (List.mem_cons_of_mem _ hz)
    have h2 := h x List.mem_cons_self
    rw [List.sum_cons, List.length_cons, Nat.succ_mul]; omega
theorem sum_lt {m : Nat} {l : List Nat} (h8 : m ≤ 8) (hl : l.length ≤ m) (hb : ∀ x ∈ l, x < m) : l.sum < 200 := by
  have h1 := list_sum_le l hb
  have h2 : l.length * m ≤ 8 * 8 := Nat.mul_le_mul (by omega) h8
  omega
theorem word_lt {ww m : Nat} {l : List Nat} (hw : 9 ≤ ww) (h8 : m ≤ 8) (hb : ∀ x ∈ l, x < m) : wordN (2 ^ ww) l < 2 ^ (l.length * ww) := by
  have h : 2 ^ 9 ≤ 2 ^ ww := Nat.pow_le_pow_right (by decide) hw
  rw [word_WN]
  refine WN_lt _ fun j hj => ?_
  have := hb _ (getD_mem' hj)
  omega
theorem WP.fin {ww n : Nat} {row rs : List Nat} {c : WS} (H : WP ww row rs n c) (hn : row.length = n) (hs : rs.length = n) :
    (∃ v, c.c.data = .cell v) ∧ c.w = ((wordN (2 ^ ww) row : Nat) : Int) ∧ c.l = ((wordN (2 ^ ww) rs : Nat) : Int) ∧ c.s = ((WN ww n (fun j => (rs.take (j + 1)).sum) : Nat) : Int) ∧ c.n = ((WN ww n (fun j => j * (j + 1) / 2) : Nat) : Int) := by
  refine ⟨H.d, ?_, ?_, H.s, H.n⟩
  · rw [H.w, List.take_of_length_le (by omega)]
  · rw [H.l, List.take_of_length_le (by omega)]
theorem div_sums {ww mm : Nat} {rs : List Nat} {cm : Int} (hw9 : 9 ≤ ww) (hwL : ww ≤ 1208) (hl : rs.length = mm) (h8 : mm ≤ 8) (hb : ∀ x ∈ rs, x < mm) (h1 : Ob (2 ^ (mm * ww + 7) ≤ cm)) (h2 : Ob (cm < 2 ^ 20000)) :
    DivPre (((wordN (2 ^ ww) rs : Nat) : Int) * 2 ^ ((ww : Nat) : Int).toNat) (1 * 2 ^ ((ww : Nat) : Int).toNat - 1) cm ∧
    (((wordN (2 ^ ww) rs : Nat) : Int) * 2 ^ ((ww : Nat) : Int).toNat) / (1 * 2 ^ ((ww : Nat) : Int).toNat - 1) = ((WN ww mm (fun j => (rs.take (j + 1)).sum) : Nat) : Int) ∧
    (((wordN (2 ^ ww) rs : Nat) : Int) * 2 ^ ((ww : Nat) : Int).toNat) % (1 * 2 ^ ((ww : Nat) : Int).toNat - 1) = ((rs.sum : Nat) : Int) := by
  have h1' : (2 : Int) ^ (mm * ww + 7) ≤ cm := h1
  have hbt : (1 : Int) * 2 ^ ((ww : Nat) : Int).toNat - 1 = ((2 ^ ww - 1 : Nat) : Int) := ev_bot
  have htp : ((wordN (2 ^ ww) rs : Nat) : Int) * 2 ^ ((ww : Nat) : Int).toNat = ((wordN (2 ^ ww) rs * 2 ^ ww : Nat) : Int) := by rw [Int.toNat_natCast, mul_pow_nat]
  have hs := sum_lt h8 (Nat.le_of_eq hl) hb
  obtain ⟨e1, e2⟩ := sums_div hw9 (xs := rs) (by omega)
  rw [hl] at e1
  rw [hbt, htp, ← Int.natCast_ediv, ← Int.natCast_emod, e1, e2]
  refine ⟨?_, rfl, rfl⟩
  have h512 : 2 ^ 9 ≤ 2 ^ ww := Nat.pow_le_pow_right (by decide) hw9
  have hwd := word_lt hw9 h8 hb
  rw [hl] at hwd
  have hp := Nat.two_pow_pos (mm * ww)
  have hc0 : 0 < cm := Int.lt_of_lt_of_le (pow2_pos _) h1'
  have hww : (2 : Nat) ^ ww < 2 ^ 4300 := Nat.pow_lt_pow_right (by decide) (by omega)
  refine ⟨Int.natCast_nonneg _, by omega, hc0, ?_, ?_, h2⟩
  · have q1 : wordN (2 ^ ww) rs * 2 ^ ww < 2 ^ (mm * ww) * 2 ^ ww := Nat.mul_lt_mul_of_pos_right hwd (Nat.two_pow_pos ww)
    have q2 : 2 ^ (mm * ww) * 2 ^ ww ≤ 2 ^ (mm * ww + 7) * (2 ^ ww - 1) := by
      rw [Nat.pow_add, Nat.mul_assoc]
      exact Nat.mul_le_mul_left _ (by omega)
    have q3 : ((2 ^ (mm * ww + 7) * (2 ^ ww - 1) : Nat) : Int) ≤ cm * ((2 ^ ww - 1 : Nat) : Int) := by
      rw [Int.natCast_mul, cast_pow2]
      exact Int.mul_le_mul_of_nonneg_right h1' (Int.natCast_nonneg _)
    omega
  · have e : (2 : Int) ^ 4300 = ((2 ^ 4300 : Nat) : Int) := (cast_pow2 4300).symm
    rw [e]
    exact Int.ofNat_lt.mpr (Nat.lt_of_le_of_lt (Nat.sub_le _ _) hww)
theorem in_pre {ww mm W : Nat} {cm : Int} (hw9 : 9 ≤ ww) (hwL : ww ≤ 1208) (h5 : 5 ≤ mm) (h8 : mm ≤ 8) (h1 : Ob (2 ^ (mm * ww + 7) ≤ cm)) (h2 : Ob (cm < 2 ^ 20000)) : InPre mm ww W cm :=
  ⟨h5, h8, hw9, hwL, Int.le_trans (pow2_le (Nat.le_add_right _ _)) h1, h2⟩
theorem ev_pre {ww mm : Nat} {cm : Int} (hw9 : 9 ≤ ww) (hwL : ww ≤ 1208) (h8 : mm ≤ 8) (h1 : Ob (2 ^ (mm * ww + 7) ≤ cm)) (h2 : Ob (cm < 2 ^ 20000)) : EvPre mm ww cm :=
  ⟨by omega, by omega, h8, Int.le_trans (pow2_le (Nat.le_add_right _ _)) h1, h2⟩
/-- the slots of the law -/
theorem slots_law {ww mm : Nat} {rs : List Nat} (hw9 : 9 ≤ ww) (hl : rs.length = mm) (h8 : mm ≤ 8) (hb : ∀ x ∈ rs, x < mm) : Slots ww mm (fun j => (rs.take (j + 1)).sum) (fun j => j * (j + 1) / 2) := by
  refine ⟨hw9, fun j hj => ?_, fun j hj => ?_⟩
  · exact sum_lt h8 (by rw [List.length_take]; omega) fun x hx => hb x (List.mem_of_mem_take hx)
  · have : j * (j + 1) ≤ 7 * 8 := Nat.mul_le_mul (by omega) (by omega)
    omega
theorem marks_cast {ww mm : Nat} (hw9 : 9 ≤ ww) : ((everyN mm ww : Nat) : Int) * 2 ^ ((ww : Int) - 1).toNat = ((marksN mm ww : Nat) : Int) := by
  have e : ((ww : Int) - 1).toNat = ww - 1 := by omega
  rw [e, mul_pow_nat]; rfl
theorem above_cast {ww mm : Nat} {s n : Nat → Nat} (H : Slots ww mm s n) : ((WN ww mm s : Nat) : Int) + ((marksN mm ww : Nat) : Int) - ((WN ww mm n : Nat) : Int) = ((aboveN mm ww s n : Nat) : Int) := by
  have := H.need_le
  rw [← H.above]; omega
theorem tight_cast {ww mm : Nat} {s n : Nat → Nat} (H : Slots ww mm s n) :
    Builtin.bitXor (Builtin.bitAnd (((aboveN mm ww s n : Nat) : Int) - ((everyN mm ww : Nat) : Int)) ((marksN mm ww : Nat) : Int)) ((marksN mm ww : Nat) : Int) = ((tightN mm ww s n : Nat) : Int) := by
  have := H.ones_le
  have e : ((aboveN mm ww s n : Nat) : Int) - ((everyN mm ww : Nat) : Int) = ((aboveN mm ww s n - everyN mm ww : Nat) : Int) := by omega
  rw [e, band_nat, bxor_nat]; rfl
theorem ex_bool (P : Prop) : ∃ b : Bool, b = true ↔ P := by
  by_cases h : P
  · exact ⟨true, by simp [h]⟩
  · exact ⟨false, by simp [h]⟩
/-- the bit asked for -/
theorem tight_bit {ww mm i : Nat} {s n : Nat → Nat} (H : Slots ww mm s n) (hi : i < mm) :
    (Builtin.bitAnd (((tightN mm ww s n : Nat) : Int).fdiv (2 ^ (((mm : Int) - ((1 : Int) + (i : Int)) + 1) * (ww : Int) - 1).toNat)) 1 = 1) ↔ s i ≤ n i := by
  have hw := H.w9
  have e : (((mm : Int) - ((1 : Int) + (i : Int)) + 1) * (ww : Int) - 1).toNat = (mm - 1 - i) * ww + (ww - 1) := by
    have e1 : (mm : Int) - ((1 : Int) + (i : Int)) + 1 = ((mm - i : Nat) : Int) := by omega
    have e2 : mm - i = (mm - 1 - i) + 1 := by omega
    rw [e1, ← Int.natCast_mul, e2, Nat.succ_mul]
    omega
  rw [e, bit_ask, H.bit hi]
  by_cases h : s i ≤ n i
  · simp [h]
  · simp [h]
end Mine
end
section
open PySem PySem.W PyProof.Rows
namespace Mine
/-! contracts with the numbers as the law holds them -/
theorem d_sums (ww mm : Nat) (rs row : List Nat) (hw9 : 9 ≤ ww) (hwL : ww ≤ 1208) (hl : row.length = mm) (h8 : mm ≤ 8) (hb0 : ∀ x ∈ row, x < mm) (hp : rs.Perm row)
   (w : World) (mean : ExcName → Option Value) (mg mb : Str → Option Value) (news : List (Addr × Obj)) (cm : Int) (t u v : Tok) (h1 : Ob (2 ^ (mm * ww + 7) ≤ cm)) (h2 : Ob (cm < 2 ^ 20000)) :
   Cl w mean mg mb 70 11 news [.int (((wordN (2 ^ ww) rs : Nat) : Int) * 2 ^ ((ww : Nat) : Int).toNat) t, .int (1 * 2 ^ ((ww : Nat) : Int).toNat - 1) u, .int cm v]
     (RetT news ((WN ww mm (fun j => (rs.take (j + 1)).sum) : Nat) : Int) ((row.map fun (n : Nat) => (n : Int)).sum)) := by
  have hb : ∀ x ∈ rs, x < mm := fun x hx => hb0 x (hp.mem_iff.mp hx)
  obtain ⟨hd, e1, e2⟩ := div_sums hw9 hwL (hp.length_eq.trans hl) h8 hb h1 h2
  have h := c_divide w mean mg mb news _ _ cm t u v hd
  have e3 : ((rs.sum : Nat) : Int) = (row.map fun (n : Nat) => (n : Int)).sum := by rw [← sum_castI]; exact sum_perm (hp.map cI)
  rw [e1, e2, e3] at h
  exact h
theorem d_order (mm ww : Nat) (row rs : List Nat) (h5 : 5 ≤ mm) (h8 : mm ≤ 8) (hw9 : 9 ≤ ww) (hwL : ww ≤ 1208) (hl : row.length = mm) (hb : ∀ x ∈ row, x < mm) (hp : rs.Perm row) (hs : rs.Pairwise (· ≤ ·))
   (w : World) (mean : ExcName → Option Value) (mg mb : Str → Option Value) (news : List (Addr × Obj)) (cm : Int) (t0 t1 t2 t3 : Tok) (h1 : Ob (2 ^ (mm * ww + 7) ≤ cm)) (h2 : Ob (cm < 2 ^ 20000)) :
   Cl w mean mg mb 84 13 news [.int ((wordN (2 ^ ww) row : Nat) : Int) t0, .int mm t1, .int ww t2, .int cm t3] (RetI news ((wordN (2 ^ ww) rs : Nat) : Int)) := by
  have h := c_in_order w mean mg mb news mm ww (wordN (2 ^ ww) row) cm t0 t1 t2 t3 (in_pre hw9 hwL h5 h8 h1 h2)
  rw [run_sorted h5 h8 hw9 hl hb hp hs] at h
  exact h
theorem d_ones (mm ww : Nat) (h8 : mm ≤ 8) (hw9 : 9 ≤ ww) (hwL : ww ≤ 1208)
   (w : World) (mean : ExcName → Option Value) (mg mb : Str → Option Value) (news : List (Addr × Obj)) (cm : Int) (t0 t1 t3 : Tok) (h1 : Ob (2 ^ (mm * ww + 7) ≤ cm)) (h2 : Ob (cm < 2 ^ 20000)) :
   Cl w mean mg mb 77 12 news [.int mm t0, .int ww t1, .int cm t3] (RetI news (everyN mm ww : Nat)) :=
  c_every w mean mg mb news mm ww cm t0 t1 t3 (ev_pre hw9 hwL h8 h1 h2)
theorem d_league (row : List Nat) (h8 : row.length ≤ 8) (w : World) (mean : ExcName → Option Value) (mg mb : Str → Option Value) (news : List (Addr × Obj)) (lr : Addr) (rv : List Value) (rk : Nat)
   (hlr : (lr, listOf rv.toArray rk) ∈ news) (hri : IntsAre rv (row.map fun (n : Nat) => (n : Int))) :
   Cl w mean mg mb 89 12 news [.ref lr] (RetB (row.map cI) news) :=
  c_league w mean mg mb news lr rv rk _ hlr hri (by rw [List.length_map]; exact h8)
theorem en_ask {ww mm : Nat} {s n : Nat → Nat} (H : Slots ww mm s n) : (Builtin.bitAnd ((aboveN mm ww s n : Nat) : Int) ((marksN mm ww : Nat) : Int) = ((marksN mm ww : Nat) : Int)) ↔ ∀ j, j < mm → n j ≤ s j := by
  rw [band_nat]
  exact Int.ofNat_inj.trans H.enough
theorem en_no {ww mm : Nat} {rs : List Nat} {eb : Bool} (H : Slots ww mm (fun j => (rs.take (j + 1)).sum) (fun j => j * (j + 1) / 2)) (heb : eb = true ↔ Enough mm rs)
    (h : Builtin.bitAnd ((aboveN mm ww (fun j => (rs.take (j + 1)).sum) (fun j => j * (j + 1) / 2) : Nat) : Int) ((marksN mm ww : Nat) : Int) ≠ ((marksN mm ww : Nat) : Int)) :
    (Builtin.bitAnd ((aboveN mm ww (fun j => (rs.take (j + 1)).sum) (fun j => j * (j + 1) / 2) : Nat) : Int) ((marksN mm ww : Nat) : Int) == ((marksN mm ww : Nat) : Int)) = eb := by
  cases eb with
  | false => exact beq_eq_false_iff_ne.mpr h
  | true => exact absurd ((en_ask H).mpr (heb.mp rfl).1) h
theorem en_yes {ww mm : Nat} {rs row : List Nat} {eb : Bool} (H : Slots ww mm (fun j => (rs.take (j + 1)).sum) (fun j => j * (j + 1) / 2)) (heb : eb = true ↔ Enough mm rs) (hp : rs.Perm row)
    (h : Builtin.bitAnd ((aboveN mm ww (fun j => (rs.take (j + 1)).sum) (fun j => j * (j + 1) / 2) : Nat) : Int) ((marksN mm ww : Nat) : Int) = ((marksN mm ww : Nat) : Int)) :
    ((row.map fun (n : Nat) => (n : Int)).sum == ((mm * (mm - 1) / 2 : Nat) : Int)) = eb := by
  have e3 : (row.map fun (n : Nat) => (n : Int)).sum = ((rs.sum : Nat) : Int) := by rw [← sum_castI]; exact (sum_perm (hp.map cI)).symm
  rw [e3]
  cases eb with
  | true => exact beq_iff_eq.mpr (congrArg _ (heb.mp rfl).2)
  | false =>
    refine beq_eq_false_iff_ne.mpr fun e => ?_
    have := heb.mpr ⟨(en_ask H).mp h, Int.ofNat.inj e⟩
    cases this
theorem lg_says {mm : Nat} {row rs : List Nat} {tl : List TT} {eb : Bool} (hm : row.length = mm) (h5 : 5 ≤ mm) (h8 : mm ≤ 8) (hb : ∀ x ∈ row, x < mm) (hp : rs.Perm row) (hs : rs.Pairwise (· ≤ ·)) (h : LgDone (row.map cI) (tl.map TT.v)) (heb : eb = true ↔ Enough mm rs) :
    (!decide (tl = [])) = eb := by
  have h1 := (landau hm h5 h8 hb hp hs h).1
  cases tl with
  | nil =>
    cases eb with
    | false => rfl
    | true => exact absurd rfl (h1.mpr (heb.mp rfl))
  | cons y r =>
    have := heb.mpr (h1.mp (by simp))
    rw [this]; rfl
/-- what is needed of the ledger from there on -/
theorem nb_pick {h₀ h : Heap} {L : Addr} {b x0 x1 x2 x3 x4 x5 x6 x7 x8 x9 x10 x11 x12 x13 x14 : Addr × Obj} {T : List (Addr × Obj)} (N : News h₀ L h (b :: (T ++ [x0, x1, x2, x3, x4, x5, x6, x7, x8, x9, x10, x11, x12, x13, x14]))) :
    News h₀ L h (b :: x1 :: x3 :: x12 :: x13 :: x14 :: T) := fun p hp => N p (by
  have up : ∀ q ∈ [x0, x1, x2, x3, x4, x5, x6, x7, x8, x9, x10, x11, x12, x13, x14], q ∈ b :: (T ++ [x0, x1, x2, x3, x4, x5, x6, x7, x8, x9, x10, x11, x12, x13, x14]) := fun q hq => List.mem_cons_of_mem _ (List.mem_append_right _ hq)
  rcases List.mem_cons.mp hp with rfl | hp
  · exact List.mem_cons_self
  rcases List.mem_cons.mp hp with rfl | hp
  · exact up _ (List.mem_cons_of_mem _ List.mem_cons_self)
  rcases List.mem_cons.mp hp with rfl | hp
  · exact up _ (List.mem_cons_of_mem _ (List.mem_cons_of_mem _ (List.mem_cons_of_mem _ List.mem_cons_self)))
  rcases List.mem_cons.mp hp with rfl | hp
  · exact up _ (List.mem_cons_of_mem _ (List.mem_cons_of_mem _ (List.mem_cons_of_mem _ (List.mem_cons_of_mem _ (List.mem_cons_of_mem _ (List.mem_cons_of_mem _ (List.mem_cons_of_mem _ (List.mem_cons_of_mem _ (List.mem_cons_of_mem _ (List.mem_cons_of_mem _ (List.mem_cons_of_mem _ (List.mem_cons_of_mem _ List.mem_cons_self))))))))))))
  rcases List.mem_cons.mp hp with rfl | hp
  · exact up _ (List.mem_cons_of_mem _ (List.mem_cons_of_mem _ (List.mem_cons_of_mem _ (List.mem_cons_of_mem _ (List.mem_cons_of_mem _ (List.mem_cons_of_mem _ (List.mem_cons_of_mem _ (List.mem_cons_of_mem _ (List.mem_cons_of_mem _ (List.mem_cons_of_mem _ (List.mem_cons_of_mem _ (List.mem_cons_of_mem _ (List.mem_cons_of_mem _ List.mem_cons_self)))))))))))))
  rcases List.mem_cons.mp hp with rfl | hp
  · exact up _ (List.mem_cons_of_mem _ (List.mem_cons_of_mem _ (List.mem_cons_of_mem _ (List.mem_cons_of_mem _ (List.mem_cons_of_mem _ (List.mem_cons_of_mem _ (List.mem_cons_of_mem _ (List.mem_cons_of_mem _ (List.mem_cons_of_mem _ (List.mem_cons_of_mem _ (List.mem_cons_of_mem _ (List.mem_cons_of_mem _ (List.mem_cons_of_mem _ (List.mem_cons_of_mem _ List.mem_cons_self))))))))))))))
  exact List.mem_cons_of_mem _ (List.mem_append_left _ hp))
theorem WP.next {ww mm i : Nat} {row rs : List Nat} {c : WS} {c' : Obj} {t1 t2 t3 t4 : Tok} {x : Option Value} (H : WP ww row rs i c) (hi : i < mm) (hrl : row.length = mm) (hrsl : rs.length = row.length) (hc : c'.data = .cell x) :
    WP ww row rs (i + 1) ⟨c', c.w * 2 ^ ((ww : Nat) : Int).toNat + (row.map fun (n : Nat) => (n : Int)).getD ((0 : Int) + (i : Int)).toNat 0, t1,
      c.l * 2 ^ ((ww : Nat) : Int).toNat + (rs.map fun (n : Nat) => (n : Int)).getD ((0 : Int) + (i : Int)).toNat 0, t2,
      c.s * 2 ^ ((ww : Nat) : Int).toNat + ((rs.map fun (n : Nat) => (n : Int)).take (((0 : Int) + (i : Int)) + 1).toNat).sum, t3,
      c.n * 2 ^ ((ww : Nat) : Int).toNat + (((0 : Int) + (i : Int)) * (((0 : Int) + (i : Int)) + 1)).fdiv 2, t4⟩ :=
  ⟨⟨x, hc⟩, step_w (by omega) H.w, step_w (by omega) H.l, step_s H.s, step_n H.n⟩
end Mine
end
section
open PySem PySem.W PyProof.Rows
namespace Mine
theorem news_front {h₀ h : Heap} {L : Addr} {A B : List (Addr × Obj)} {x : Addr × Obj} (N : News h₀ L h (A ++ x :: B)) : News h₀ L h (x :: (A ++ B)) := fun p hp => N p (by
  rcases List.mem_cons.mp hp with rfl | hp
  · exact List.mem_append_right _ List.mem_cons_self
  · rcases List.mem_append.mp hp with hp | hp
    · exact List.mem_append_left _ hp
    · exact List.mem_append_right _ (List.mem_cons_of_mem _ hp))
/-- the places asked for lie in the table -/
theorem p_at {cc : Nat} {c : Int} {l : List Int} {ys : List Value} {t u : Tok} {i : Nat} {v : Value} (hc : c = (cc : Int)) (hy : IntsAre ys (l.map fun k => (k.fdiv 7).fmod (2 ^ c.toNat)))
    (hv : (ys ++ [Value.int (Int.fmod 7 (2 ^ c.toNat)) t, Value.int (2 ^ c.toNat - 1) u])[i]? = some v) : ∃ (pn : Nat) (tp : Tok), v = .int (pn : Int) tp ∧ pn < 2 ^ cc := by
  have hI : IntsAre (ys ++ [Value.int (Int.fmod 7 (2 ^ c.toNat)) t, Value.int (2 ^ c.toNat - 1) u]) (l.map (fun k => (k.fdiv 7).fmod (2 ^ c.toNat)) ++ [Int.fmod 7 (2 ^ c.toNat), 2 ^ c.toNat - 1]) :=
    hy.append (.cons _ _ (.cons _ _ .nil))
  have hS : (2 : Int) ^ c.toNat = ((2 ^ cc : Nat) : Int) := pow_of hc
  have hp : 0 < 2 ^ cc := Nat.two_pow_pos cc
  have hb : ∀ x ∈ (l.map (fun k => (k.fdiv 7).fmod (2 ^ c.toNat)) ++ [Int.fmod 7 (2 ^ c.toNat), 2 ^ c.toNat - 1]), 0 ≤ x ∧ x < ((2 ^ cc : Nat) : Int) := by
    intro x hx
    have hm : ∀ k : Int, 0 ≤ k.fmod (2 ^ c.toNat) ∧ k.fmod (2 ^ c.toNat) < ((2 ^ cc : Nat) : Int) := by
      intro k
      rw [hS, fmod_pos (by omega)]
      exact ⟨Int.emod_nonneg _ (by omega), Int.emod_lt_of_pos _ (by omega)⟩
    rcases List.mem_append.mp hx with h1 | h1
    · obtain ⟨k, _, rfl⟩ := List.mem_map.mp h1
      exact hm _
    · rcases List.mem_cons.mp h1 with rfl | h1
      · exact hm _
      · rw [List.mem_singleton.mp h1, hS]
        omega
  have hi : i < (ys ++ [Value.int (Int.fmod 7 (2 ^ c.toNat)) t, Value.int (2 ^ c.toNat - 1) u]).length := by
    rcases Nat.lt_or_ge i (ys ++ [Value.int (Int.fmod 7 (2 ^ c.toNat)) t, Value.int (2 ^ c.toNat - 1) u]).length with h1 | h1
    · exact h1
    · rw [List.getElem?_eq_none h1] at hv; cases hv
  rw [hI.length] at hi
  obtain ⟨t', e⟩ := ints_at hI i hi
  rw [hv] at e
  have e1 := Option.some.inj e
  have hx := hb _ (List.getElem_mem hi)
  have e2 : (l.map (fun k => (k.fdiv 7).fmod (2 ^ c.toNat)) ++ [Int.fmod 7 (2 ^ c.toNat), 2 ^ c.toNat - 1]).getD i 0 = (l.map (fun k => (k.fdiv 7).fmod (2 ^ c.toNat)) ++ [Int.fmod 7 (2 ^ c.toNat), 2 ^ c.toNat - 1])[i] := by
    simp only [List.getD_eq_getElem?_getD, List.getElem?_eq_getElem hi, Option.getD_some]
  rw [e2] at e1
  refine ⟨_, t', ?_, (Int.toNat_lt hx.1).mpr hx.2⟩
  rw [Int.toNat_of_nonneg hx.1]
  exact e1
theorem chosen_lt {cc : Nat} {ns : List Int} : ∀ x ∈ chosenN cc ns, x < 2 ^ cc := by
  intro x hx
  unfold chosenN at hx
  obtain ⟨k, _, rfl⟩ := List.mem_map.mp hx
  have hp : 0 < 2 ^ cc := Nat.two_pow_pos cc
  have h1 : (0 : Int) ≤ ((2 ^ cc : Nat) : Int) := by omega
  rw [fmod_pos h1]
  have := Int.emod_nonneg k (b := ((2 ^ cc : Nat) : Int)) (by omega)
  have := Int.emod_lt_of_pos k (b := ((2 ^ cc : Nat) : Int)) (by omega)
  omega
theorem law_ex {vs : List Value} {ns : List Int} (_ : IntsAre vs ns) {cc : Nat} (h : 13 - (List.take 3 ns).sum.fmod 13 = (cc : Int)) :
    ∃ xs : List Nat, List.map (fun k => k.fmod (2 ^ (13 - (List.take 3 ns).sum.fmod 13).toNat)) (List.take 3 ns ++ [5, 3, 4104]) = xs.map (fun (x : Nat) => (x : Int)) ∧ xs.length ≤ 6 ∧ ∀ x ∈ xs, x < 2 ^ cc :=
  ⟨chosenN cc ns, law_xs ‹_› h, law_len, chosen_lt⟩
theorem at_nat {vs : List Value} {l : List Int} {xs : List Nat} {i : Nat} {v : Value} (hns : l = xs.map fun (x : Nat) => (x : Int)) (hI : IntsAre vs l) (hv : vs.toArray[i]? = some v) : ∃ t, v = .int ((xs.getD i 0 : Nat) : Int) t := by
  subst hns
  have hv' : vs[i]? = some v := by simpa using hv
  have hi : i < vs.length := by
    rcases Nat.lt_or_ge i vs.length with h1 | h1
    · exact h1
    · rw [List.getElem?_eq_none h1] at hv'; cases hv'
  exact nat_at hI hv' hi
theorem len_le6 {vs : List Value} {l : List Int} {xs : List Nat} (hns : l = xs.map fun (x : Nat) => (x : Int)) (hxl : xs.length ≤ 6) (hI : IntsAre vs l) : vs.length ≤ sizeLine := by
  subst hns
  rw [ints_len hI]
  exact due_sz (by omega)
theorem len_eq {vs : List Value} {l : List Int} {xs : List Nat} (hns : l = xs.map fun (x : Nat) => (x : Int)) (hI : IntsAre vs l) : vs.length = xs.length := by
  subst hns
  exact ints_len hI
theorem ask_eq {xs : List Nat} {p i : Nat} : (decide (Builtin.bitAnd ((xs.getD i 0 : Nat) : Int) (p : Int) = ((xs.getD i 0 : Nat) : Int))) = ask xs p i := by
  rw [band_nat]
  unfold ask
  congr 1
  exact propext ⟨fun h => Int.ofNat.inj h, fun h => by rw [h]⟩
def keptL (xs : List Nat) : List Int := (xs.map fun (x : Nat) => (x : Int)).foldl flipL []
theorem keptL_snoc (xs : List Nat) (x : Nat) : keptL (xs ++ [x]) = flipL (keptL xs) x := by
  unfold keptL; rw [List.map_append, List.foldl_append]; rfl
theorem keptL_take {xs : List Nat} {i : Nat} (hi : i < xs.length) : keptL (xs.take (i + 1)) = flipL (keptL (xs.take i)) ((xs.getD i 0 : Nat) : Int) := by
  rw [take_snoc xs 0 hi, keptL_snoc]
theorem flipL_len (ks : List Int) (k : Int) : (flipL ks k).length ≤ ks.length + 1 := by
  unfold flipL
  split
  · exact Nat.le_trans (List.length_erase_le) (Nat.le_succ _)
  · simp
theorem keptL_len (xs : List Nat) : (keptL xs).length ≤ xs.length := by
  refine snoc_ind (P := fun xs => (keptL xs).length ≤ xs.length) (Nat.le_refl _) (fun xs x ih => ?_) xs
  rw [keptL_snoc, List.length_append]
  exact Nat.le_trans (flipL_len _ _) (Nat.succ_le_succ ih)
theorem flipL_mem {ks : List Int} {k x : Int} (h : x ∈ flipL ks k) : x ∈ ks ∨ x = k := by
  unfold flipL at h
  split at h
  · exact .inl (List.mem_of_mem_erase h)
  · rcases List.mem_append.mp h with h | h
    · exact .inl h
    · exact .inr (List.mem_singleton.mp h)
theorem keptL_mem (xs : List Nat) : ∀ x ∈ keptL xs, ∃ n ∈ xs, x = ((n : Nat) : Int) := by
  refine snoc_ind (P := fun xs => ∀ x ∈ keptL xs, ∃ n ∈ xs, x = ((n : Nat) : Int)) (fun x hx => (nomatch hx)) (fun xs y ih => ?_) xs
  intro x hx
  rw [keptL_snoc] at hx
  rcases flipL_mem hx with h | h
  · obtain ⟨n, hn, e⟩ := ih x h
    exact ⟨n, List.mem_append_left _ hn, e⟩
  · exact ⟨y, List.mem_append_right _ (List.mem_singleton.mpr rfl), h⟩
theorem law_turn {cc n : Nat} {xs : List Nat} {ns : List Int} (_ : cc ≤ 13) (hx : ∀ x ∈ xs, x < 2 ^ cc) (hp : ns.Perm (keptL xs)) (hn : n = ns.length) :
    ((turnN cc (tableN cc xs) cc : Nat) : Int) = ((List.range n).map fun (i : Nat) => (2 : Int) ^ (ns.getD i 0).toNat).sum := law_turn' hx hp hn
theorem kept_at {vs : List Value} {ns : List Int} {xs : List Nat} {cc i : Nat} {v : Value} (hI : IntsAre vs ns) (hp : ns.Perm (keptL xs)) (hx : ∀ x ∈ xs, x < 2 ^ cc) (h13 : cc ≤ 13) (hv : vs.toArray[i]? = some v) :
    (∃ t, v = .int (ns.getD i 0) t) ∧ 0 ≤ ns.getD i 0 ∧ ns.getD i 0 ≤ 8192 := by
  have hv' : vs[i]? = some v := by simpa using hv
  have hi : i < vs.length := by
    rcases Nat.lt_or_ge i vs.length with h1 | h1
    · exact h1
    · rw [List.getElem?_eq_none h1] at hv'; cases hv'
  rw [hI.length] at hi
  obtain ⟨t, e⟩ := ints_at hI i hi
  rw [hv'] at e
  refine ⟨⟨t, Option.some.inj e⟩, ?_⟩
  have e2 : ns.getD i 0 = ns[i] := by simp only [List.getD_eq_getElem?_getD, List.getElem?_eq_getElem hi, Option.getD_some]
  rw [e2]
  obtain ⟨n, hn, e3⟩ := keptL_mem xs _ (hp.mem_iff.mp (List.getElem_mem hi))
  have := hx n hn
  have := size_le h13
  rw [e3]
  omega
theorem kept_len {vs : List Value} {ns : List Int} {xs : List Nat} (hI : IntsAre vs ns) (hp : ns.Perm (keptL xs)) (hxl : xs.length ≤ 6) : vs.length ≤ sizeLine := by
  rw [hI.length, hp.length_eq]
  have := keptL_len xs
  exact due_sz (by omega)
theorem at_natB {vs : List Value} {l : List Int} {xs : List Nat} {i : Nat} {v : Value} (hns : l = xs.map fun (x : Nat) => (x : Int)) (hI : IntsAre vs l) (hv : vs[i]? = some v) : ∃ t, v = .int ((xs.getD i 0 : Nat) : Int) t :=
  at_nat hns hI (by simpa using hv)
theorem kept_small {xs : List Nat} {i : Nat} (hxl : xs.length ≤ 6) : (keptL (xs.take i)).length < 1000 := by
  have := keptL_len (xs.take i)
  rw [List.length_take] at this
  omega
theorem one_S {k : Int} : ∀ x, ((fun k' => (fun _ => false) k' || decide (k' = k)) x : Bool) = true ↔ x = k := by
  intro x
  simp
theorem ne_it_set {w : World} {o it : Obj} {ks : List Int} (h : itKind it) (h1 : SetIs w o ks) : o ≠ it := by
  rintro rfl
  obtain ⟨hex, es, ep, t, hd, _⟩ := h1
  obtain ⟨a, e⟩ := h.2
  rw [hd] at e; cases e
theorem kept_step {w : World} {o : Obj} {vs : List Value} {l : List Int} {xs : List Nat} {i : Nat} (hns : l = xs.map fun (x : Nat) => (x : Int)) (hI : IntsAre vs l) (hi : i < vs.length) (h : SetIs w o (flipL (keptL (xs.take i)) ((xs.getD i 0 : Nat) : Int))) : SetIs w o (keptL (xs.take (i + 1))) := by
  rw [keptL_take (by rw [← len_eq hns hI]; exact hi)]
  exact h
theorem kept_64 {vs : List Value} {l : List Int} {xs : List Nat} (hns : l = xs.map fun (x : Nat) => (x : Int)) (hxl : xs.length ≤ 6) (_ : IntsAre vs l) {n : Nat} : (keptL (xs.take n)).length < 64 := by
  have := keptL_len (xs.take n)
  rw [List.length_take] at this
  omega
theorem kept_all {w : World} {o : Obj} {vs : List Value} {l : List Int} {xs : List Nat} (hns : l = xs.map fun (x : Nat) => (x : Int)) (hI : IntsAre vs l) (h : SetIs w o (keptL (xs.take vs.length))) : SetIs w o (keptL xs) := by
  rw [len_eq hns hI, List.take_length] at h
  exact h
theorem kept_lt64 {xs : List Nat} (hxl : xs.length ≤ 6) : (keptL xs).length < 64 := by
  have := keptL_len xs
  omega
theorem gtN : ∀ x y : Nat, x < y → y ≠ x := fun _ _ h => Nat.ne_of_gt h
theorem beq_int (a b : Int) : (a == b) = decide (a = b) := by
  by_cases h : a = b
  · subst h; simp
  · simp [h]
theorem z_len3 {vs : List Value} {ns : List Int} {f : Int → Int} {n : Nat} (h : IntsAre vs ((List.take 3 ns).map f)) (hn : n ≤ 100) : vs.length + n ≤ sizeLine := by
  have := h.length
  rw [List.length_map, List.length_take] at this
  exact due_sz (by omega)
theorem z_len3' {vs : List Value} {ns : List Int} {n : Nat} (h : IntsAre vs (List.take 3 ns)) (hn : n ≤ 100) : vs.length + n ≤ sizeLine := by
  have := h.length
  rw [List.length_take] at this
  exact due_sz (by omega)
theorem z_sh1 {S : Int} {cc : Nat} (h : 13 - S.fmod 13 = (cc : Int)) (h13 : cc ≤ 13) : 0 ≤ (2 : Int) ^ (13 - S.fmod 13).toNat ∧ (2 : Int) ^ (13 - S.fmod 13).toNat ≤ 100000 ∧ Sm 1 := by
  rw [pow_of h]
  have h9 := size_le h13
  generalize 2 ^ cc = z at h9 ⊢
  exact ⟨by omega, by omega, sm_one⟩
theorem z_sh2 {S : Int} {cc : Nat} (h : 13 - S.fmod 13 = (cc : Int)) (h13 : cc ≤ 13) :
    0 ≤ (2 : Int) ^ (13 - S.fmod 13).toNat + 25 + (S.fdiv 13).fmod 16 ∧ (2 : Int) ^ (13 - S.fmod 13).toNat + 25 + (S.fdiv 13).fmod 16 ≤ 100000 ∧ Sm 1 := by
  rw [pow_of h]
  have h9 := size_le h13
  generalize 2 ^ cc = z at h9 ⊢
  have e1 : (S.fdiv 13).fmod 16 = (S.fdiv 13) % 16 := fmod_pos (by decide)
  rw [e1]
  exact ⟨by omega, by omega, sm_one⟩
theorem z_sm {S : Int} : Sm 2 ∧ Sm ((if S < 0 then -S else S).fmod 1000) := by
  have e2 : (if S < 0 then -S else S).fmod 1000 = (if S < 0 then -S else S) % 1000 := fmod_pos (by decide)
  rw [e2]
  generalize (if S < 0 then -S else S) = U
  have h2 : (U % 1000).natAbs < 2 ^ 10 := by
    rw [show (2 : Nat) ^ 10 = 1024 by decide]
    omega
  exact ⟨sm_of_lt (n := 2) (by decide) (by decide), sm_of_lt h2 (by decide)⟩
theorem z_len9 {vs : List Value} {cc : Nat} {f : Nat → Int} (h : IntsAre vs ((List.range cc).map f)) (h13 : cc ≤ 13) : ((vs.length : Nat) : Int) < 2 ^ 63 := by
  have := h.length
  rw [List.length_map, List.length_range] at this
  have e : (2 : Int) ^ 63 = 9223372036854775808 := by decide
  rw [e]
  omega
theorem z_py7 (a : Int) : (7 : Int) ≠ 0 ∧ Builtin.divisionGoesByPylong a 7 = false := ⟨by decide, pylong_small (by decide +kernel)⟩
theorem z_py13 (a : Int) : (13 : Int) ≠ 0 ∧ Builtin.divisionGoesByPylong a 13 = false := ⟨by decide, pylong_small (by decide +kernel)⟩
end Mine
end
section
open PySem PySem.W PyProof.Rows PySem.Calls PyProof.V PySem.Spec PyProof
open PyProof.Rows.LCg (NsObj lst Off3 Off1 SrcAt FinA ns_obj fr_but news_but lst_snoc list_st)
set_option maxRecDepth 100000
set_option maxHeartbeats 2000000
namespace Mine
/-! a comprehension of whole numbers over a list of pairs, with a test -/
section
variable {prog : Program} {w : World} {A : Around} {E : Value → Shared → Prop} {s : Shared} {h₀ : Heap} {L : Addr} {m : Str → Option Value} {env : Env}
theorem pt_loop {ct elt target iter : PySem.Expr} {scope : Scope} {pos : Pos} {it acc : Value} {env : Env} {R : Result → Shared → Prop} (J : Nat → Shared → Prop)
    (turn : ∀ n s, J n s → wpAny (model prog w) A (pyNext it) (fun r s₁ => match r with
      | none => R (.ok .next) s₁
      | some v => wpAny (model prog w) A (letOwnedTupleGo target it v) (fun _ s₂ => wpAny (model prog w) A (assign target env v) (fun _ s₃ => wpAny (model prog w) A (isTrue ct env (eval ct env)) (fun ok s₄ =>
          if ok = true then wpAny (model prog w) A (eval elt env) (fun x s₅ => wpAny (model prog w) A (call (.builtin "list.append") [acc, x]) (fun _ s₆ => ∃ m, m < n ∧ J m s₆) (notedBy (model prog w) A env fun e s' => R (.error e) s') s₅) (notedBy (model prog w) A env fun e s' => R (.error e) s') s₄
          else ∃ m, m < n ∧ J m s₄) (notedBy (model prog w) A env fun e s' => R (.error e) s') s₃) (notedBy (model prog w) A env fun e s' => R (.error e) s') s₂) (notedBy (model prog w) A env fun e s' => R (.error e) s') s₁)
      (notedBy (model prog w) A env fun e s' => R (.error e) s') s)
    (n : Nat) (h : J n s) : codeAny (model prog w) A (.compLoop (.ListComp elt [⟨target, iter, [ct], 0⟩] scope pos) 0 it acc env) R s := by
  refine codeAny_loop rfl J (fun n s hJ => ?_) n h
  show wpAny _ A ((compTurn (.ListComp elt [⟨target, iter, [ct], 0⟩] scope pos) 0 it acc env).onRaise (fun x => do noteFrame x env; theTreesLotGoes x)) _ _ s
  refine wpAny_noted ?_
  rw [compTurn_list]
  refine wpAny_bind (wpAny_standAt (wpAny_bind (wpAny_mono (turn n s hJ) (fun r s₁ h1 => ?_) fun _ _ e => e)))
  match r, h1 with
  | none, h1 => exact wpAny_pure h1
  | some v, h1 =>
    refine wpAny_bind (wpAny_mono h1 (fun _ s₂ h2 => wpAny_bind (wpAny_mono h2 (fun _ s₃ h3 => ?_) fun _ _ e => e)) fun _ _ e => e)
    refine wpAny_bind (wpAny_tests_one (wpAny_mono h3 (fun ok s₄ h4 => ?_) fun _ _ e => e))
    cases ok with
    | false => exact wpAny_pure ⟨rfl, h4⟩
    | true =>
      refine wpAny_bind (wpAny_bind (wpAny_mono (show wpAny _ _ _ _ _ _ from h4) (fun x s₅ h5 => ?_) fun _ _ e => e))
      exact wpAny_bind (wpAny_mono h5 (fun _ s₆ h6 => wpAny_pure (wpAny_pure ⟨rfl, h6⟩)) fun _ _ e => e)
end
end Mine
namespace Mine
section
variable {prog : Program} {w : World} {A : Around} {E : Value → Shared → Prop} {s : Shared} {h₀ : Heap} {L : Addr} {m : Str → Option Value} {env : Env}
/-- what the source of such a comprehension gives: the list of pairs, and how its turns go -/
def SrcPT (prog : Program) (w : World) (A : Around) (h₀ : Heap) (L : Addr) (m : Str → Option Value) (env : Env) (ct elt : PySem.Expr) (x x₂ y : Str) (scope : Scope) (cl : List (Str × Addr)) (Q : Flow → Shared → Prop) (xv : Value) (s : Shared) : Prop :=
  ∃ (tl : List TT) (g : TT → Bool) (f : TT → Int) (q : Addr) (kk : Nat) (nw : List (Addr × Obj)), xv = .ref q ∧ A.handled = none ∧ Fr h₀ L s.heap m ∧ News h₀ L s.heap nw ∧ (q, listOf (tl.map TT.r).toArray kk) ∈ nw ∧ tl.length ≤ sizeLine ∧ (∀ z ∈ tl, z.e ∈ nw) ∧
    (∀ (z : TT) ys I oI C oC D m₂ (s₁ : Shared) (E' : Value → Shared → Prop), (∃ h tk, s₁ = { s with heap := h, toks := tk }) → z ∈ tl → NsObj oC m₂ → m₂ x = some (.int z.a z.t) → m₂ x₂ = some (.int z.b z.u) → Fr h₀ L s₁.heap m → News h₀ L s₁.heap ((I, oI) :: (C, oC) :: (D, lst ys) :: nw) →
      wpAny (model prog w) A (isTrue ct (compEnvC scope cl C env) (eval ct (compEnvC scope cl C env))) (CTEnd h₀ L m ((I, oI) :: (C, oC) :: (D, lst ys) :: nw) (g z) s₁) E' s₁) ∧
    (∀ (z : TT) ys I oI C oC D m₂ (s₁ : Shared) (E' : Value → Shared → Prop), (∃ h tk, s₁ = { s with heap := h, toks := tk }) → z ∈ tl → g z = true → NsObj oC m₂ → m₂ x = some (.int z.a z.t) → m₂ x₂ = some (.int z.b z.u) → Fr h₀ L s₁.heap m → News h₀ L s₁.heap ((I, oI) :: (C, oC) :: (D, lst ys) :: nw) →
      wpAny (model prog w) A (eval elt (compEnvC scope cl C env)) (CIEnd h₀ L m ((I, oI) :: (C, oC) :: (D, lst ys) :: nw) (f z) s₁) E' s₁) ∧
    (∀ D ys h tk, IntsAre ys ((tl.filter g).map f) → (∀ p ∈ nw, p.1 ≠ D) → Fr h₀ L h (fun z => if z = y then some (.ref D) else m z) → News h₀ L h ((D, listOf ys.toArray ys.length) :: nw) → Q .next { s with heap := h, toks := tk })
/-- the turns of the comprehension -/
theorem pt_turns {ct elt iter : PySem.Expr} {x x₂ : Str} {px px₂ tp : Pos} {tk0} {scope : Scope} {cl : List (Str × Addr)} {pos : Pos} {tl : List TT} {g : TT → Bool} {f : TT → Int} {q : Addr} {kk : Nat} {nw : List (Addr × Obj)} {RR : Value → Addr → Result → Shared → Prop}
    (hh : A.handled = none) (hkind : scope.kind = .function) (hcell : ∀ z ∈ scope.names, z.2 ≠ .cell) (hx : scope.names.lookup x = some .local) (hx₂ : scope.names.lookup x₂ = some .local) (hxx : x ≠ x₂)
    (F : Fr h₀ L s.heap m) (N : News h₀ L s.heap nw) (hq : (q, listOf (tl.map TT.r).toArray kk) ∈ nw) (hsz : tl.length ≤ sizeLine) (htl : ∀ z ∈ tl, z.e ∈ nw)
    (test : ∀ (z : TT) ys I oI C oC D m₂ (s₁ : Shared) (E' : Value → Shared → Prop), (∃ h tk, s₁ = { s with heap := h, toks := tk }) → z ∈ tl → NsObj oC m₂ → m₂ x = some (.int z.a z.t) → m₂ x₂ = some (.int z.b z.u) → Fr h₀ L s₁.heap m → News h₀ L s₁.heap ((I, oI) :: (C, oC) :: (D, lst ys) :: nw) →
      wpAny (model prog w) A (isTrue ct (compEnvC scope cl C env) (eval ct (compEnvC scope cl C env))) (CTEnd h₀ L m ((I, oI) :: (C, oC) :: (D, lst ys) :: nw) (g z) s₁) E' s₁)
    (elem : ∀ (z : TT) ys I oI C oC D m₂ (s₁ : Shared) (E' : Value → Shared → Prop), (∃ h tk, s₁ = { s with heap := h, toks := tk }) → z ∈ tl → g z = true → NsObj oC m₂ → m₂ x = some (.int z.a z.t) → m₂ x₂ = some (.int z.b z.u) → Fr h₀ L s₁.heap m → News h₀ L s₁.heap ((I, oI) :: (C, oC) :: (D, lst ys) :: nw) →
      wpAny (model prog w) A (eval elt (compEnvC scope cl C env)) (CIEnd h₀ L m ((I, oI) :: (C, oC) :: (D, lst ys) :: nw) (f z) s₁) E' s₁)
    (fin : ∀ D C h tk m' ys, IntsAre ys ((tl.filter g).map f) → (∀ p ∈ nw, p.1 ≠ D ∧ p.1 ≠ C) → Fr h₀ L h m → News h₀ L h ((D, lst ys) :: nw) → h.Ns C m' → h₀.get? C = none → C ≠ L → D ≠ L → C ≠ D → RR (.ref D) C (.ok .next) { s with heap := h, toks := tk }) :
    wpAny (model prog w) A (pyIter (.ref q)) (fun it s₂ => wpAny (model prog w) A (newList []) (fun acc s₃ => wpAny (model prog w) A (newFunctionEnv scope env.globals cl [] env.qual none .none (some env)) (fun cenv s₄ =>
      codeAny (model prog w) A (.compStart (.ListComp elt [⟨.Tuple [.Name x px, .Name x₂ px₂] tk0 tp, iter, [ct], 0⟩] scope pos) 0 it acc { cenv with scope := relabel scope env }) (RR acc cenv.locals) s₄) E s₃) E s₂) E s := by
  have hol := (N _ hq).1
  have hls : s.heap.IsList q (tl.map TT.r).toArray := ⟨_, hol, rfl, kk, rfl⟩
  have hqlt : q < s.heap.objs.size := Heap.lt_size hol
  have hn : (tl.map TT.r).toArray.size = tl.length := by rw [List.size_toArray, List.length_map]
  refine wpAny_pyIter_list hls ?_
  -- the three new objects: the iterator, the list, the names
  obtain ⟨I, hIa⟩ : ∃ I : Nat, s.heap.objs.size = I := ⟨_, rfl⟩
  rw [hIa] at hqlt ⊢
  obtain ⟨g1, hg1⟩ : ∃ g1, g1 = s.heap.push { cls := .type "list_iterator", data := .fields #[.ref q, .int 0 0] } := ⟨_, rfl⟩
  have up1 : ∀ b o, s.heap.get? b = some o → g1.get? b = some o := fun b o e => hg1 ▸ Heap.get?_push_of_some _ e
  have hs1 : g1.objs.size = I + 1 := by rw [hg1, Heap.size_push, hIa]
  have hit1 : g1.IsListIter I q 0 := hg1 ▸ hIa ▸ ⟨_, Heap.get?_push_size _ rfl, rfl, rfl⟩
  rw [← hg1]
  refine wpAny_newObj_type (wpAny_newFunctionEnv hcell (by intro y hy; simp at hy) (fun h₁ hns₁ hsb₁ => ?_) hkind)
  dsimp only at hns₁ hsb₁ ⊢
  obtain ⟨g2, hg2⟩ : ∃ g2, g2 = g1.push { cls := Value.type "list", data := Data.seq #[] } := ⟨_, rfl⟩
  rw [← hg2] at hns₁ hsb₁ ⊢
  have hs2 : g2.objs.size = I + 2 := by rw [hg2, Heap.size_push, hs1]
  have up2 : ∀ b o, g1.get? b = some o → g2.get? b = some o := fun b o e => hg2 ▸ Heap.get?_push_of_some _ e
  have hDl : g2.get? (I + 1) = some (lst []) := by rw [hg2, ← hs1]; exact Heap.get?_push_size _ rfl
  have h1of : ∀ (b : Nat) o, b < I + 2 → g2.get? b = some o → h₁.get? b = some o := fun b o hb e =>
    hsb₁.extBut b o (by rw [hs2]; exact Nat.ne_of_lt hb) (Heap.get?_push_of_some _ e)
  have old : ∀ b o, s.heap.get? b = some o → h₁.get? b = some o := fun b o e => h1of b o (by have := Heap.lt_size e; rw [hIa] at this; exact Nat.lt_trans this (by omega)) (up2 b o (up1 b o e))
  have hDh : h₁.get? (I + 1) = some (lst []) := h1of _ _ (by omega) hDl
  have hitC : h₁.IsListIter I q 0 := hit1.at fun o e => h1of _ _ (by omega) (up2 _ _ e)
  rw [hs2] at hns₁
  have none0 : ∀ (a : Nat), I ≤ a → h₀.get? a = none := fun a ha => by
    cases e : h₀.get? a with
    | none => rfl
    | some o =>
      have := Heap.lt_size (F.keep a o e)
      rw [hIa] at this; exact absurd this (Nat.not_lt.mpr ha)
  have hLI : @LT.lt Nat _ L I := hIa ▸ F.ns.lt
  have hnI : ∀ p ∈ nw, @LT.lt Nat _ p.1 I := fun p hp => hIa ▸ Heap.lt_size (N p hp).1
  have hCL : @Ne Nat (I + 2) L := Nat.ne_of_gt (Nat.lt_trans hLI (by omega))
  have hDL : @Ne Nat (I + 1) L := Nat.ne_of_gt (Nat.lt_succ_of_lt hLI)
  have hIL : @Ne Nat L I := Nat.ne_of_lt hLI
  have W := Walks.list (prog := prog) (w := w) hh I q (Nat.ne_of_lt hqlt) (tl.map TT.r).toArray
  rw [hn] at W
  have loop : ∀ s₃ : Shared, (∃ tk, s₃ = { s with heap := h₁, toks := tk }) →
      codeAny (model prog w) A (.compLoop (.ListComp elt [⟨.Tuple [.Name x px, .Name x₂ px₂] tk0 tp, iter, [ct], 0⟩] scope pos) 0 (.ref I) (.ref (I + 1)) (compEnvC scope cl (I + 2) env)) (RR (.ref (I + 1)) (I + 2)) s₃ := by
    rintro s₃ ⟨tk3, rfl⟩
    refine pt_loop (fun k s' => ∃ h' tk i ys m', s' = { s with heap := h', toks := tk } ∧ i ≤ tl.length ∧ k = tl.length + 1 - i ∧ ys.length ≤ i ∧ IntsAre ys (((tl.take i).filter g).map f) ∧ h'.IsListIter I q i ∧ Fr h₀ L h' m ∧ h'.Ns (I + 2) m' ∧ News h₀ L h' ((I + 1, lst ys) :: nw))
      ?_ (tl.length + 1) ⟨h₁, tk3, 0, [], _, rfl, Nat.zero_le _, rfl, Nat.le_refl _, .nil, hitC, F.keeps old, hns₁, fun p hp => ?_⟩
    · rintro k s' ⟨h', tk, i, ys, m', rfl, hi, rfl, hyl, hys, hit, F', hn', N'⟩
      have hls' : h'.IsList q (tl.map TT.r).toArray := ⟨_, (N' _ (List.mem_cons_of_mem _ hq)).1, rfl, kk, rfl⟩
      have offI : ∀ p ∈ (I + 1, lst ys) :: nw, p.1 ≠ I := fun p hp => by
        rcases List.mem_cons.mp hp with rfl | hp
        · exact Nat.succ_ne_self I
        · exact Nat.ne_of_lt (hnI p hp)
      have hC2 : I + 2 ∉ [I] := fun hm => absurd (List.mem_singleton.mp hm) (by show ¬ (I + 2 = I); omega)
      by_cases hlt : i < tl.length
      · refine W.item i _ _ _ hlt ⟨hit, hls'⟩ fun v h₂ tk₂ hv hst₂ hk₂ => ?_
        obtain ⟨z, hz, hzm, rfl⟩ := tt_at (tl := tl) (i := i) (v := v) (by simpa using hv)
        have F₂ : Fr h₀ L h₂ m := fr_but F' hk₂ hIL (none0 I (Nat.le_refl _))
        have N₂ : News h₀ L h₂ ((I + 1, lst ys) :: nw) := news_but N' hk₂ offI
        have hn₂ : h₂.Ns (I + 2) m' := hn'.at' fun o e => hk₂ _ o hC2 e
        have htz : IsTup h₂ z.p #[.int z.a z.t, .int z.b z.u] := ⟨_, (N₂ _ (List.mem_cons_of_mem _ (htl z hzm))).1, rfl, 0, rfl⟩
        refine wpAny_letOwnedTupleGo_listiter hst₂.1 ?_
        refine assign_Tuple_tuple hh htz rfl rfl fun h₃ he => ?_
        have k3 : ∀ b o, h₂.get? b = some o → h₃.get? b = some o := fun b o e => he b o (Nat.ne_of_lt (Heap.lt_size e)) e
        refine assignInOrder_cons (wpAny_assign_Name (wpAny_storeName_local (lookup_relabel_local hx) (hn₂.at' fun o e => k3 _ o e) (fun h₄ hn₄ hs₄ => ?_) (by simp [compEnvC, relabel, hkind])))
        refine assignInOrder_cons (wpAny_assign_Name (wpAny_storeName_local (lookup_relabel_local hx₂) hn₄ (fun h₅ hn₅ hs₅ => ?_) (by simp [compEnvC, relabel, hkind])))
        refine assignInOrder_nil ?_
        have k5 : ∀ (b : Nat) o, b ≠ I + 2 → h₂.get? b = some o → h₅.get? b = some o := fun b o hb e => hs₅.extBut b o hb (hs₄.extBut b o hb (k3 b o e))
        have F₅ : Fr h₀ L h₅ m := ((F₂.keeps k3).change hs₄ hCL (none0 (I + 2) (by omega))).change hs₅ hCL (none0 (I + 2) (by omega))
        have N₅ : News h₀ L h₅ ((I + 1, lst ys) :: nw) := fun p hp => by
          refine ⟨k5 _ _ ?_ (N₂ p hp).1, (N₂ p hp).2⟩
          rcases List.mem_cons.mp hp with rfl | hp
          · show ¬ (I + 1 = I + 2); omega
          · exact Nat.ne_of_lt (Nat.lt_trans (hnI p hp) (by omega))
        obtain ⟨oI, hoI, hI5⟩ := hst₂.1
        have hoI5 : h₅.get? I = some oI := k5 _ _ (by omega) hoI
        obtain ⟨oC, hoC, hC5⟩ := ns_obj hn₅
        have N₆ : News h₀ L h₅ ((I, oI) :: (I + 2, oC) :: (I + 1, lst ys) :: nw) := fun p hp => by
          rcases List.mem_cons.mp hp with rfl | hp
          · exact ⟨hoI5, Ne.symm hIL, none0 I (Nat.le_refl _)⟩
          rcases List.mem_cons.mp hp with rfl | hp
          · exact ⟨hoC, hCL, none0 _ (by omega)⟩
          · exact N₅ p hp
        have htk : (tl.take (i + 1)).filter g = (tl.take i).filter g ++ (if g z then [z] else []) := by
          rw [List.take_add_one, hz, List.filter_append]
          cases hgz : g z <;> simp [hgz]
        refine wpAny_mono (test z ys I oI (I + 2) oC (I + 1) _ _ _ ⟨_, _, rfl⟩ hzm hC5 (by simp [hxx]) (by simp) F₅ N₆) (fun ok s₆ h6 => ?_) fun _ _ e => e
        obtain ⟨rfl, h₆, tk₆, rfl, F₆, N₆'⟩ := h6
        have zI : h₆.IsListIter I q (i + 1) := ⟨oI, (N₆' _ List.mem_cons_self).1, hI5⟩
        have zC := (N₆' _ (List.mem_cons_of_mem _ List.mem_cons_self)).1
        cases hgz : g z with
        | false =>
          rw [if_neg (by decide)]
          refine ⟨tl.length + 1 - (i + 1), by omega, h₆, tk₆, i + 1, ys, _, rfl, hlt, rfl, Nat.le_succ_of_le hyl, ?_, zI, F₆, hC5.ns zC, fun p hp => N₆' p (List.mem_cons_of_mem _ (List.mem_cons_of_mem _ hp))⟩
          rw [htk, hgz]
          simpa using hys
        | true =>
          rw [if_pos rfl]
          refine wpAny_mono (elem z ys I oI (I + 2) oC (I + 1) _ _ _ ⟨_, _, rfl⟩ hzm hgz hC5 (by simp [hxx]) (by simp) F₆ N₆') (fun y7 s₇ h7 => ?_) fun _ _ e => e
          obtain ⟨t7, h₇, tk₇, rfl, rfl, F₇, N₇⟩ := h7
          have yI : h₇.IsListIter I q (i + 1) := ⟨oI, (N₇ _ List.mem_cons_self).1, hI5⟩
          have yC := (N₇ _ (List.mem_cons_of_mem _ List.mem_cons_self)).1
          have yD := (N₇ _ (List.mem_cons_of_mem _ (List.mem_cons_of_mem _ List.mem_cons_self))).1
          refine append_at (hsz := by show ys.toArray.size ≤ sizeLine; rw [List.size_toArray]; omega) yD fun h₈ hs₈ hD₈ => ?_
          refine ⟨tl.length + 1 - (i + 1), by omega, h₈, tk₇, i + 1, ys ++ [.int (f z) t7], _, rfl, hlt, rfl, by rw [List.length_append]; exact Nat.succ_le_succ hyl, ?_, yI.at fun o e => hs₈.extBut _ o (by show ¬ (I = I + 1); omega) e,
            F₇.change hs₈ hDL (none0 _ (by omega)), (hC5.ns yC).sameBut hs₈ (by show ¬ (I + 2 = I + 1); omega), fun p hp => ?_⟩
          · rw [htk, hgz, if_pos rfl, List.map_append]
            exact hys.append (.cons _ _ .nil)
          · rcases List.mem_cons.mp hp with rfl | hp
            · exact ⟨hD₈.trans (congrArg some (lst_snoc ys _)), hDL, none0 _ (by omega)⟩
            · have z7 := N₇ p (List.mem_cons_of_mem _ (List.mem_cons_of_mem _ (List.mem_cons_of_mem _ hp)))
              exact ⟨hs₈.extBut _ _ (Nat.ne_of_lt (Nat.lt_succ_of_lt (hnI p hp))) z7.1, z7.2⟩
      · obtain rfl : i = tl.length := Nat.le_antisymm hi (Nat.not_lt.mp hlt)
        rw [List.take_length] at hys
        refine W.done _ _ _ ⟨hit, hls'⟩ fun h₂ tk₂ hk₂ => ?_
        exact fin (I + 1) (I + 2) h₂ tk₂ m' ys hys (fun p hp => by have := hnI p hp; exact ⟨Nat.ne_of_lt (Nat.lt_succ_of_lt this), Nat.ne_of_lt (Nat.lt_trans this (by omega))⟩) (fr_but F' hk₂ hIL (none0 I (Nat.le_refl _)))
          (news_but N' hk₂ offI) (hn'.at' fun o e => hk₂ _ o hC2 e) (none0 _ (by omega)) hCL hDL (by show ¬ (I + 2 = I + 1); omega)
    · rcases List.mem_cons.mp hp with rfl | hp
      · exact ⟨hDh, hDL, none0 _ (by omega)⟩
      · exact ⟨old _ _ (N p hp).1, (N p hp).2⟩
  rw [hs1]
  have hst₁ : h₁.IsListIter I q 0 ∧ h₁.IsList q (tl.map TT.r).toArray := ⟨hitC, hls.at fun o e => old _ o e⟩
  simp only [newEnv, hs2]
  exact codeAny_compStart_list (loop _ ⟨_, rfl⟩) (W.self 0 _ _ _ hst₁ (loop _ ⟨_, rfl⟩))
/-- an assignment of such a comprehension to a local name -/
theorem Assign_PT {ct elt iter : PySem.Expr} {x x₂ y : Str} {px px₂ tp py : Pos} {tk0} {scope : Scope} {cl : List (Str × Addr)} {pos spos : Pos} {Q : Flow → Shared → Prop} (hLe : env.locals = L)
    (hsw : swapsWith (.ListComp elt [⟨.Tuple [.Name x px, .Name x₂ px₂] tk0 tp, iter, [ct], 0⟩] scope pos) (some (.Name y py)) spos.line env = pure true)
    (hclos : closureFor scope env = pure cl) (hcell : ∀ z ∈ scope.names, z.2 ≠ .cell) (hkind : scope.kind = .function)
    (hnames : ∀ z ∈ scope.names, z.2 = .local → scope.names.lookup z.1 = some .local) (hx : scope.names.lookup x = some .local) (hx₂ : scope.names.lookup x₂ = some .local) (hxx : x ≠ x₂)
    (hy : env.kindOf y = some .local) (hp : (env.scope.kind == .class || (env.scope.kind == .module && env.locals != env.globals)) = false)
    (h : wpAny (model prog w) A (eval iter env) (SrcPT prog w A h₀ L m env ct elt x x₂ y scope cl Q) E s)
    (hs : ∀ x, foldedSetIterable iter env x = pure x := by intro _; rfl) :
    wpAny (model prog w) A (exec (.Assign [.Name y py] (.ListComp elt [⟨.Tuple [.Name x px, .Name x₂ px₂] tk0 tp, iter, [ct], 0⟩] scope pos) spos) env) Q E s := by
  subst hLe
  rw [exec_Assign_Name_used _ _ _ _ hsw]
  refine wpAny_bind (wpAny_standAt (wpAny_bind ?_))
  show wpAny _ A (do let _ ← comprehension (.ListComp elt [⟨.Tuple [.Name x px, .Name x₂ px₂] tk0 tp, iter, [ct], 0⟩] scope pos) scope env _ (newList []) false (eval iter env) (some (assign (.Name y py) env))) _ _ s
  refine wpAny_bind (wpAny_mono (wpAny_comprehension_free (use := some (assign (.Name y py) env)) (Q := fun _ s' => Q .next s') rfl hs hclos hkind hnames
    (wpAny_mono h (fun xv s₁ h₁ => ?_) fun _ _ e => e)) (fun _ s' hq => wpAny_pure (wpAny_pure hq)) fun _ _ e => e)
  obtain ⟨tl, g, f, q, kk, nw, rfl, hh, F, N, hq, hsz, htl, test, elem, fin⟩ := h₁
  refine pt_turns (g := g) (f := f) hh hkind hcell hx hx₂ hxx F N hq hsz htl test elem ?_
  intro D C h' tk m' ys hys off F' N' hn hC₀ hCL hDL hCD
  show wpAny _ A (assign (.Name y py) env (.ref D)) _ _ _
  refine wpAny_assign_Name (wpAny_storeName_local hy F'.ns (fun h₂ hn₂ hs₂ => ?_) hp)
  have hL₀ : h₀.get? env.locals = none := Heap.get?_none_of_le F'.above
  have F₂ : Fr h₀ env.locals h₂ (fun z => if z = y then some (.ref D) else m z) := ⟨hn₂, fun b o e => hs₂.extBut b o (fun q => by rw [q, hL₀] at e; cases e) (F'.keep b o e), F'.above⟩
  refine ⟨m', hn.sameBut hs₂ hCL, fun h'' hs'' => fin D ys h'' _ hys (fun p hp => (off p hp).1) (F₂.change hs'' hCL hC₀) (fun p hp => ?_)⟩
  have z : h₂.get? p.1 = some p.2 := hs₂.extBut _ _ (N' p hp).2.1 (N' p hp).1
  refine ⟨hs''.extBut _ _ ?_ z, (N' p hp).2⟩
  rcases List.mem_cons.mp hp with rfl | hp
  · exact Ne.symm hCD
  · exact (off p hp).2
end
end Mine
end
section
open PySem PySem.W PyProof.Rows PySem.Calls PyProof.V PySem.Spec PyProof
open PyProof.Rows.LCg (NsObj lst Off3 Off1 SrcAt CompEnd CompRest FinE FinA CompSrc)
set_option maxRecDepth 100000
namespace Mine
section
variable {prog : Program} {w : World} {A : Around} {E : Value → Shared → Prop} {s : Shared} {h₀ : Heap} {L : Addr} {m : Str → Option Value} {env : Env}
def dataTT (y : TT) : PyData := .tuple [.int y.a, .int y.b]
theorem reads_tts {h : Heap} : ∀ (tl : List TT), (∀ y ∈ tl, h.get? y.p = some y.e.2) → ∃ as, ReadsAll h (tl.map TT.r) (tl.map dataTT) as
  | [], _ => ⟨_, .nil⟩
  | y :: r, hy => by
    obtain ⟨as, h2⟩ := reads_tts r fun z hz => hy z (List.mem_cons_of_mem _ hz)
    have h1 : Reads h (.ref y.p) (dataTT y) _ := reads_tuple_at (hy y List.mem_cons_self) rfl rfl (.cons (.int _ _) (.cons (.int _ _) .nil))
    exact ⟨_, .cons h1 h2⟩
theorem lay_tts : ∀ tl : List TT, PyData.canLayAll0 (tl.map dataTT) = true
  | [] => rfl
  | _ :: r => by simp [PyData.canLayAll0, PyData.canLay0, dataTT, lay_tts r]
theorem depth_tts : ∀ tl : List TT, PyData.depthAll (tl.map dataTT) ≤ 1
  | [] => by simp [PyData.depthAll]
  | _ :: r => by
    have := depth_tts r
    simp [PyData.depthAll, PyData.depth, dataTT]
    omega
theorem shaped_tts (tl : List TT) : SeqAt.shaped (.list (tl.map dataTT)) = true := by
  have := depth_tts tl
  simp [SeqAt.shaped, PyData.canLay0, PyData.depth, lay_tts tl]
  omega
/-- a list of pairs is another than the empty list if it holds one -/
theorem r_ne_pairs {a b : Addr} {k1 k2 : Nat} {tl : List TT} {nw : List (Addr × Obj)} {Q : Value → Shared → Prop} (N : News h₀ L s.heap nw) (ha : (a, listOf (tl.map TT.r).toArray k1) ∈ nw) (hb : (b, listOf #[] k2) ∈ nw) (ht : ∀ y ∈ tl, y.e ∈ nw) (hu : A.units + 64 < cLine)
    (h : Q (.bool (!decide (tl = []))) s) : wpAny (model prog w) A (compareOp .NotEq (.ref a) (.ref b)) Q E s := by
  obtain ⟨as, hr⟩ := reads_tts tl fun y hy => (N _ (ht y hy)).1
  have ra : Reads s.heap (.ref a) (.list (tl.map dataTT)) _ := reads_list_at (N _ ha).1 rfl rfl hr
  have rb : Reads s.heap (.ref b) (.list (([] : List TT).map dataTT)) _ := reads_list_at (N _ hb).1 rfl rfl .nil
  refine ne_dataH ra rb (shaped_tts tl) (shaped_tts []) hu ?_
  cases tl with
  | nil => exact h
  | cons y r => exact h
/-- a list of whole numbers is the empty list or not -/
theorem r_eq_nil {a b : Addr} {k1 k2 : Nat} {xs : List Value} {ns : List Int} {nw : List (Addr × Obj)} {Q : Value → Shared → Prop} (N : News h₀ L s.heap nw) (ha : (a, listOf xs.toArray k1) ∈ nw) (hb : (b, listOf #[] k2) ∈ nw) (hi : IntsAre xs ns) (hu : A.units + 64 < cLine)
    (h : Q (.bool (decide (ns = []))) s) : wpAny (model prog w) A (compareOp .Eq (.ref a) (.ref b)) Q E s :=
  ke_eq_ints (ys := []) (ms := []) ⟨_, (N _ ha).1, rfl, k1, rfl⟩ ⟨_, (N _ hb).1, rfl, k2, rfl⟩ hi .nil hu h
/-- pairs over a range -/
theorem r_lcip_range {elt : PySem.Expr} {x : Str} {scope : Scope} {cl : List (Str × Addr)} {Q : Value → Shared → Prop} {r : Addr} {a b : Int} {t u v : Tok} {nw : List (Addr × Obj)} (n : Nat) (f : Nat → Int × Int)
    (hh : A.handled = none) (F : Fr h₀ L s.heap m) (N : News h₀ L s.heap nw) (hr : IsRange s.heap r a b 1 t u v) (hsm : Builtin.Range.small a b 1 = true) (hn : Builtin.Range.rangeSize a b 1 = ((n : Nat) : Int)) (hsz : n ≤ sizeLine)
    (turn : ∀ i v (nw' : List (Addr × Obj)) ys I oI C oC D m₂ (s₁ : Shared) (E' : Value → Shared → Prop), (∃ h tk, s₁ = { s with heap := h, toks := tk }) → i < n → (∃ t, v = .int (a + (i : Int)) t) → (∀ p ∈ nw, p ∈ nw') → NsObj oC m₂ → m₂ x = some v → Fr h₀ L s₁.heap m → News h₀ L s₁.heap ((I, oI) :: (C, oC) :: (D, lst ys) :: nw') →
      wpAny (model prog w) A (eval elt (compEnvC scope cl C env)) (CPEnd h₀ L m ((I, oI) :: (C, oC) :: (D, lst ys) :: nw') (f i).1 (f i).2 s₁) E' s₁)
    (ret : ∀ D (tl' : List TT) (nw' : List (Addr × Obj)) h tk, tl'.map TT.v = (List.range n).map f → (∀ y ∈ tl', y.e ∈ nw') → (∀ p ∈ nw, p ∈ nw') → (∀ p ∈ nw', p.1 ≠ D) → Fr h₀ L h m → News h₀ L h ((D, listOf (tl'.map TT.r).toArray (tl'.map TT.r).length) :: nw') → Q (.ref D) { s with heap := h, toks := tk }) :
    CompSrc prog w A h₀ L m env elt x scope cl (fun s₂ => FinE h₀ L m s₂ Q) (.ref r) s := by
  refine CompSrc.range hh F N hr hsm hn hsz fun g => ?_
  refine lcip_ind (s := { s with heap := g }) (S := fun _ => True) (Fin := FinE h₀ L m { s with heap := g } Q) n f (fun _ _ => trivial) turn ?_ n 0 [] nw rfl rfl (fun _ h => (nomatch h)) (fun _ h => h)
  intro tl' nw' hv ht hk D h tk F' N' off
  exact ret D tl' nw' h tk hv ht hk (off_ne off) F' N'
theorem r_in {l : Addr} {vs : List Value} {ns : List Int} {x : Int} {t : Tok} {k : Nat} {nw : List (Addr × Obj)} {Q : Value → Shared → Prop} (N : News h₀ L s.heap nw) (hq : (l, listOf vs.toArray k) ∈ nw) (hi : IntsAre vs ns)
    (h : Q (.bool (ns.any (· == x))) s) : wpAny (model prog w) A (compareOp .In (.int x t) (.ref l)) Q E s := in_list_ints ⟨_, (N _ hq).1, rfl, k, rfl⟩ hi h
theorem r_notin {l : Addr} {vs : List Value} {ns : List Int} {x : Int} {t : Tok} {k : Nat} {nw : List (Addr × Obj)} {Q : Value → Shared → Prop} (N : News h₀ L s.heap nw) (hq : (l, listOf vs.toArray k) ∈ nw) (hi : IntsAre vs ns)
    (h : Q (.bool (!(ns.any (· == x)))) s) : wpAny (model prog w) A (compareOp .NotIn (.int x t) (.ref l)) Q E s := notin_list_ints ⟨_, (N _ hq).1, rfl, k, rfl⟩ hi h
/-- where the two ways of a truth meet -/
def JoinB (h₀ : Heap) (L : Addr) (m : Str → Option Value) (nw : List (Addr × Obj)) (b : Bool) (s₁ : Shared) (y : Value) (s₂ : Shared) : Prop :=
  ∃ (h' : Heap) (tk : Nat), y = .bool b ∧ s₂ = { s₁ with heap := h', toks := tk } ∧ Fr h₀ L h' m ∧ News h₀ L h' nw
theorem JoinB.intro {nw nw' : List (Addr × Obj)} {b b' : Bool} {s₁ : Shared} {h' : Heap} {tk : Nat} (F : Fr h₀ L h' m) (N : News h₀ L h' nw') (hs : ∀ p ∈ nw, p ∈ nw') (ho : Ob (b' = b)) : JoinB h₀ L m nw b s₁ (.bool b') { s₁ with heap := h', toks := tk } :=
  ⟨h', tk, by rw [show b' = b from ho], rfl, F, fun p hp => N p (hs p hp)⟩
theorem r_joinb {t : Sem Value} {Q : Value → Shared → Prop} {nw : List (Addr × Obj)} (b : Bool) (_F : Fr h₀ L s.heap m) (_N : News h₀ L s.heap nw) (h : wpAny (model prog w) A t (JoinB h₀ L m nw b s) E s)
    (h2 : ∀ h' tk, Fr h₀ L h' m → News h₀ L h' nw → Q (.bool b) { s with heap := h', toks := tk }) : wpAny (model prog w) A t Q E s :=
  wpAny_mono h (fun _ _ ⟨h', tk, e1, e2, F', N'⟩ => e1 ▸ e2 ▸ h2 h' tk F' N') fun _ _ e => e
end
end Mine
end
section
open PySem PySem.W PyProof.Rows PySem.Calls PyProof.V PySem.Spec PyProof
open PyProof.Rows.LCg (NsObj lst)
set_option maxRecDepth 100000
namespace Mine
section
variable {prog : Program} {w : World} {A : Around} {E : Value → Shared → Prop} {s : Shared} {h₀ : Heap} {L : Addr} {m : Str → Option Value} {env : Env}
theorem Assign_PTF {ct elt iter : PySem.Expr} {x x₂ y : Str} {px px₂ tp py : Pos} {tk0} {scope : Scope} {cl : List (Str × Addr)} {pos spos : Pos} {Q : Flow → Shared → Prop} (_F₀ : Fr h₀ L s.heap m) (hLe : env.locals = L)
    (hsw : swapsWith (.ListComp elt [⟨.Tuple [.Name x px, .Name x₂ px₂] tk0 tp, iter, [ct], 0⟩] scope pos) (some (.Name y py)) spos.line env = pure true)
    (hclos : closureFor scope env = pure cl) (hcell : ∀ z ∈ scope.names, z.2 ≠ .cell) (hkind : scope.kind = .function)
    (hnames : ∀ z ∈ scope.names, z.2 = .local → scope.names.lookup z.1 = some .local) (hx : scope.names.lookup x = some .local) (hx₂ : scope.names.lookup x₂ = some .local) (hxx : x ≠ x₂)
    (hy : env.kindOf y = some .local) (hp : (env.scope.kind == .class || (env.scope.kind == .module && env.locals != env.globals)) = false)
    (h : wpAny (model prog w) A (eval iter env) (SrcPT prog w A h₀ L m env ct elt x x₂ y scope cl Q) E s)
    (hs : ∀ x, foldedSetIterable iter env x = pure x := by intro _; rfl) :
    wpAny (model prog w) A (exec (.Assign [.Name y py] (.ListComp elt [⟨.Tuple [.Name x px, .Name x₂ px₂] tk0 tp, iter, [ct], 0⟩] scope pos) spos) env) Q E s :=
  Assign_PT hLe hsw hclos hcell hkind hnames hx hx₂ hxx hy hp h hs
/-- the source is a list of pairs of the ledger -/
theorem r_pt {ct elt : PySem.Expr} {x x₂ y : Str} {scope : Scope} {cl : List (Str × Addr)} {Q : Flow → Shared → Prop} {q : Addr} {kk : Nat} {nw : List (Addr × Obj)} (tl : List TT) (g : TT → Bool) (f : TT → Int)
    (hh : A.handled = none) (F : Fr h₀ L s.heap m) (N : News h₀ L s.heap nw) (hq : (q, listOf (tl.map TT.r).toArray kk) ∈ nw) (hsz : tl.length ≤ sizeLine) (htl : ∀ z ∈ tl, z.e ∈ nw)
    (test : ∀ (z : TT) ys I oI C oC D m₂ (s₁ : Shared) (E' : Value → Shared → Prop), (∃ h tk, s₁ = { s with heap := h, toks := tk }) → z ∈ tl → NsObj oC m₂ → m₂ x = some (.int z.a z.t) → m₂ x₂ = some (.int z.b z.u) → Fr h₀ L s₁.heap m → News h₀ L s₁.heap ((I, oI) :: (C, oC) :: (D, lst ys) :: nw) →
      wpAny (model prog w) A (isTrue ct (compEnvC scope cl C env) (eval ct (compEnvC scope cl C env))) (CTEnd h₀ L m ((I, oI) :: (C, oC) :: (D, lst ys) :: nw) (g z) s₁) E' s₁)
    (elem : ∀ (z : TT) ys I oI C oC D m₂ (s₁ : Shared) (E' : Value → Shared → Prop), (∃ h tk, s₁ = { s with heap := h, toks := tk }) → z ∈ tl → g z = true → NsObj oC m₂ → m₂ x = some (.int z.a z.t) → m₂ x₂ = some (.int z.b z.u) → Fr h₀ L s₁.heap m → News h₀ L s₁.heap ((I, oI) :: (C, oC) :: (D, lst ys) :: nw) →
      wpAny (model prog w) A (eval elt (compEnvC scope cl C env)) (CIEnd h₀ L m ((I, oI) :: (C, oC) :: (D, lst ys) :: nw) (f z) s₁) E' s₁)
    (ret : ∀ D ys h tk, IntsAre ys ((tl.filter g).map f) → (∀ p ∈ nw, p.1 ≠ D) → Fr h₀ L h (fun z => if z = y then some (.ref D) else m z) → News h₀ L h ((D, listOf ys.toArray ys.length) :: nw) → Q .next { s with heap := h, toks := tk }) :
    SrcPT prog w A h₀ L m env ct elt x x₂ y scope cl Q (.ref q) s :=
  ⟨tl, g, f, q, kk, nw, rfl, hh, F, N, hq, hsz, htl, test, elem, ret⟩
end
end Mine
end
section
open PySem PySem.W PyProof.Rows
namespace Mine
/-! the games won by the first in order over the others -/
theorem LgR.nonneg {row wins : List Int} {left : List Nat} {ts : List (Int × Int)} (h : LgR row wins left ts) : ∀ q ∈ ts, 0 ≤ q.1 ∧ 0 ≤ q.2 := by
  induction h with
  | start => intro q hq; cases hq
  | @step wins left left1 ts FI L5 h hp hs h0 h5 hF g0 g1 ih =>
    have hF0 : 0 ≤ FI := by
      rw [← hF, List.getLastD_eq_getLast?]
      cases e : (left1.map fun (x : Nat) => (x : Int)).getLast? with
      | none => exact Int.le_refl 0
      | some z =>
        obtain ⟨x, _, rfl⟩ := List.mem_map.mp (List.mem_of_getLast? e)
        exact Int.natCast_nonneg x
    have hL : ∀ x ∈ L5, (0 : Int) ≤ x := by
      rw [h5]
      intro x hx
      obtain ⟨y, _, rfl⟩ := List.mem_map.mp ((List.dropLast_sublist _).subset hx)
      exact Int.natCast_nonneg y
    intro q hq
    rcases List.mem_append.mp hq with hq | hq
    · rcases List.mem_append.mp hq with hq | hq
      · exact ih q hq
      · obtain ⟨x, hx, rfl⟩ := List.mem_map.mp hq
        exact ⟨hF0, hL x (List.mem_of_mem_take hx)⟩
    · obtain ⟨x, hx, rfl⟩ := List.mem_map.mp hq
      exact ⟨hL x (List.mem_of_mem_drop hx), hF0⟩
theorem any_cast {l : List Nat} {x : Int} (h : 0 ≤ x) : (l.map fun (n : Nat) => (n : Int)).any (· == x) = decide (x.toNat ∈ l) := by
  rw [Bool.eq_iff_iff, List.any_eq_true, decide_eq_true_eq]
  constructor
  · rintro ⟨z, hz, e⟩
    obtain ⟨n, hn, rfl⟩ := List.mem_map.mp hz
    have e' : (n : Int) = x := by simpa using e
    rw [← e', Int.toNat_natCast]; exact hn
  · intro hm
    exact ⟨_, List.mem_map.mpr ⟨_, hm, rfl⟩, by simp [Int.toNat_of_nonneg h]⟩
/-- one is among the first, two is not -/
def gOut (l : List Int) (z : TT) : Bool := l.any (· == z.a) && !(l.any (· == z.b))
theorem g_out {l : List Nat} {tl : List TT} (hn : ∀ q ∈ tl.map TT.v, 0 ≤ q.1 ∧ 0 ≤ q.2) : (tl.filter (gOut (l.map fun (n : Nat) => (n : Int)))).length = outN (fun x => decide (x ∈ l)) (tl.map TT.v) := by
  unfold outN
  rw [List.countP_map, ← List.countP_eq_length_filter]
  refine List.countP_congr fun z hz => ?_
  have := hn _ (List.mem_map_of_mem hz)
  have e1 := any_cast (l := l) this.1
  have e2 := any_cast (l := l) this.2
  show gOut _ z = true ↔ _
  unfold gOut
  show (_ && !_) = true ↔ (decide (z.a.toNat ∈ l) && !decide (z.b.toNat ∈ l)) = true
  rw [show z.a = z.v.1 from rfl, show z.b = z.v.2 from rfl, e1, e2]
theorem out_nil {mm i : Nat} {row rs o : List Nat} {tl : List TT} (hm : row.length = mm) (h5 : 5 ≤ mm) (h8 : mm ≤ 8) (hb : ∀ x ∈ row, x < mm) (hp : rs.Perm row) (hs : rs.Pairwise (· ≤ ·)) (ho : o.Perm (List.range mm)) (hos : LgSorted (row.map cI) o)
    (hd : LgDone (row.map cI) (tl.map TT.v)) (hE : Enough mm rs) (hi : i < mm) :
    (tl.filter (gOut ((o.map fun (n : Nat) => (n : Int)).take ((1 : Int) + (i : Int)).toNat)) = []) ↔ (rs.take (i + 1)).sum ≤ i * (i + 1) / 2 := by
  obtain ⟨h1, h2⟩ := landau hm h5 h8 hb hp hs hd
  obtain ⟨wins, hR⟩ := h2 (h1.mpr hE)
  have e : ((1 : Int) + (i : Int)).toNat = i + 1 := by omega
  rw [e, ← List.map_take, ← List.length_eq_zero_iff, g_out hR.nonneg, order_sum hp hs (hm ▸ ho) hos hR (show i + 1 ≤ row.length by omega), tri_need]
  omega
theorem tight_out {ww mm i : Nat} {row rs o : List Nat} {tl : List TT} (H : Slots ww mm (fun j => (rs.take (j + 1)).sum) (fun j => j * (j + 1) / 2)) (hm : row.length = mm) (h5 : 5 ≤ mm) (h8 : mm ≤ 8) (hb : ∀ x ∈ row, x < mm) (hp : rs.Perm row) (hs : rs.Pairwise (· ≤ ·)) (ho : o.Perm (List.range mm)) (hos : LgSorted (row.map cI) o)
    (hd : LgDone (row.map cI) (tl.map TT.v)) (hE : Enough mm rs) (hi : i < mm) (f : TT → Int) :
    decide ((tl.filter (gOut ((o.map fun (n : Nat) => (n : Int)).take ((1 : Int) + (i : Int)).toNat))).map f = []) =
      (Builtin.bitAnd (((tightN mm ww (fun j => (rs.take (j + 1)).sum) (fun j => j * (j + 1) / 2) : Nat) : Int).fdiv (2 ^ (((mm : Int) - ((1 : Int) + (i : Int)) + 1) * (ww : Int) - 1).toNat)) 1 == 1) := by
  rw [Bool.eq_iff_iff, decide_eq_true_eq, List.map_eq_nil_iff, beq_iff_eq, out_nil hm h5 h8 hb hp hs ho hos hd hE hi]
  exact (tight_bit H hi).symm
theorem od_n {mm : Nat} : ((mm : Int) - 0).toNat = (List.range mm).length := by simp
theorem od_len1 {wins : List Int} {left : List Nat} {mm : Nat} {tl8 : List TT} (hv : tl8.map TT.v = (List.range ((mm : Int) - 0).toNat).map fun i => (wins.getD (left.getD i 0) 0, ((left.getD i 0 : Nat) : Int))) (h5 : 5 ≤ mm) : 1 ≤ tl8.length := by
  rw [lg_vl hv]; omega
/-! ledgers -/
theorem ne_front {h₀ h : Heap} {L c : Addr} {o : Obj} {v : Option Value} {T : List (Addr × Obj)} (N : News h₀ L h ((c, o) :: T)) (ho : o.data = .cell v) (hc : ∀ p ∈ T, (∃ w, p.2.data = .cell w) → p.1 ≠ c) : ∀ p ∈ T, p.1 ≠ c := fun p hp => by
  by_cases e : p.2 = o
  · exact hc p hp ⟨v, e ▸ ho⟩
  · exact apart N (List.mem_cons_of_mem _ hp) List.mem_cons_self e
theorem tts_off {c : Addr} (tl : List TT) : ∀ p ∈ tl.map TT.e, (∃ w, p.2.data = .cell w) → p.1 ≠ c := fun p hp => by
  obtain ⟨y, _, rfl⟩ := List.mem_map.mp hp
  rintro ⟨w, e⟩; cases e
theorem off_list {a c : Addr} {xs : Array Value} {k : Nat} {T : List (Addr × Obj)} (h : ∀ p ∈ T, (∃ w, p.2.data = .cell w) → p.1 ≠ c) : ∀ p ∈ (a, listOf xs k) :: T, (∃ w, p.2.data = .cell w) → p.1 ≠ c :=
  List.forall_mem_cons.mpr ⟨(by rintro ⟨w, e⟩; cases e), h⟩
theorem off_cell {a c : Addr} {o : Obj} {T : List (Addr × Obj)} (hn : (a : Nat) ≠ c) (h : ∀ p ∈ T, (∃ w, p.2.data = .cell w) → p.1 ≠ c) : ∀ p ∈ (a, o) :: T, (∃ w, p.2.data = .cell w) → p.1 ≠ c :=
  List.forall_mem_cons.mpr ⟨fun _ => hn, h⟩
/-- what is needed of the ledger once the order is there -/
theorem nb_order {h₀ h : Heap} {L : Addr} {d6 x y z b kc r oc rc mc : Addr × Obj} {nw8 T : List (Addr × Obj)} (N : News h₀ L h (d6 :: x :: y :: nw8)) (hk : ∀ p ∈ z :: b :: kc :: r :: oc :: rc :: mc :: T, p ∈ nw8) :
    News h₀ L h (oc :: d6 :: b :: kc :: r :: rc :: mc :: T) := fun p hp => N p (by
  have up : ∀ q ∈ z :: b :: kc :: r :: oc :: rc :: mc :: T, q ∈ d6 :: x :: y :: nw8 := fun q hq => List.mem_cons_of_mem _ (List.mem_cons_of_mem _ (List.mem_cons_of_mem _ (hk q hq)))
  rcases List.mem_cons.mp hp with rfl | hp
  · exact up _ (List.mem_cons_of_mem _ (List.mem_cons_of_mem _ (List.mem_cons_of_mem _ (List.mem_cons_of_mem _ List.mem_cons_self))))
  rcases List.mem_cons.mp hp with rfl | hp
  · exact List.mem_cons_self
  rcases List.mem_cons.mp hp with rfl | hp
  · exact up _ (List.mem_cons_of_mem _ List.mem_cons_self)
  rcases List.mem_cons.mp hp with rfl | hp
  · exact up _ (List.mem_cons_of_mem _ (List.mem_cons_of_mem _ List.mem_cons_self))
  rcases List.mem_cons.mp hp with rfl | hp
  · exact up _ (List.mem_cons_of_mem _ (List.mem_cons_of_mem _ (List.mem_cons_of_mem _ List.mem_cons_self)))
  exact up _ (List.mem_cons_of_mem _ (List.mem_cons_of_mem _ (List.mem_cons_of_mem _ (List.mem_cons_of_mem _ (List.mem_cons_of_mem _ hp))))))
/-- the k goes to the front -/
theorem nb_k {h₀ h : Heap} {L : Addr} {d6 b kc r oc rc mc : Addr × Obj} {T : List (Addr × Obj)} (N : News h₀ L h (oc :: d6 :: b :: kc :: r :: rc :: mc :: T)) : News h₀ L h (kc :: oc :: d6 :: b :: rc :: mc :: T) := fun p hp => N p (by
  rcases List.mem_cons.mp hp with rfl | hp
  · exact List.mem_cons_of_mem _ (List.mem_cons_of_mem _ (List.mem_cons_of_mem _ List.mem_cons_self))
  rcases List.mem_cons.mp hp with rfl | hp
  · exact List.mem_cons_self
  rcases List.mem_cons.mp hp with rfl | hp
  · exact List.mem_cons_of_mem _ List.mem_cons_self
  rcases List.mem_cons.mp hp with rfl | hp
  · exact List.mem_cons_of_mem _ (List.mem_cons_of_mem _ List.mem_cons_self)
  exact List.mem_cons_of_mem _ (List.mem_cons_of_mem _ (List.mem_cons_of_mem _ (List.mem_cons_of_mem _ (List.mem_cons_of_mem _ hp)))))
end Mine
end
section
open PySem PySem.W PyProof.Rows
namespace Mine
/-! the side claims of the law's own body -/
theorem sm_le {n : Nat} (h : n ≤ 100000) : Sm (n : Int) := sm_nat (n := 17) (Nat.lt_of_le_of_lt h (by decide)) (by decide)
theorem mw_le {i mm ww : Nat} (hi : i ≤ mm) (h8 : mm ≤ 8) (hL : ww ≤ 1208) : i * ww ≤ 30000 := Nat.le_trans (Nat.mul_le_mul (Nat.le_trans hi h8) hL) (by decide)
theorem two_sm {ww : Nat} (hL : ww ≤ 1208) : Sm (2 ^ ((ww : Nat) : Int).toNat) := by rw [Int.toNat_natCast]; exact sm_pow2 (by omega)
theorem ob_i {i m : Nat} (hi : i < m) (h8 : m ≤ 8) : Sm ((0 : Int) + (i : Int)) ∧ Sm ((0 : Int) + (i : Int) + 1) := by
  have e1 : (0 : Int) + (i : Int) = ((i : Nat) : Int) := by omega
  have e2 : (i : Int) + 1 = ((i + 1 : Nat) : Int) := by omega
  rw [e1, e2]
  exact ⟨sm_le (by omega), sm_le (by omega)⟩
theorem ob_nd {ww mm i : Nat} {row rs : List Nat} {c : WS} (H : WP ww row rs i c) (hi : i < mm) (h8 : mm ≤ 8) (h9 : 9 ≤ ww) (hL : ww ≤ 1208) : Sm c.n ∧ Sm (2 ^ ((ww : Nat) : Int).toNat) := by
  refine ⟨?_, two_sm hL⟩
  rw [H.n]
  refine sm_any (WN_lt i fun j hj => ?_) (mw_le (Nat.le_of_lt hi) h8 hL)
  have h1 : j * (j + 1) ≤ 7 * 8 := Nat.mul_le_mul (by omega) (by omega)
  have h2 : 2 ^ 9 ≤ 2 ^ ww := Nat.pow_le_pow_right (by decide) h9
  omega
theorem ob_s {ww mm i : Nat} {row rs : List Nat} {c : WS} (H : WP ww row rs i c) (hi : i < mm) (h8 : mm ≤ 8) (h9 : 9 ≤ ww) (hL : ww ≤ 1208) (hrl : row.length = mm) (hrsl : rs.length = row.length) (hrb : ∀ x ∈ row, x < mm) (hp : rs.Perm row) : Sm c.s ∧ Sm (2 ^ ((ww : Nat) : Int).toNat) := by
  refine ⟨?_, two_sm hL⟩
  rw [H.s]
  refine sm_any (WN_lt i fun j hj => ?_) (mw_le (Nat.le_of_lt hi) h8 hL)
  have h2 : 2 ^ 9 ≤ 2 ^ ww := Nat.pow_le_pow_right (by decide) h9
  have := sum_lt h8 (l := rs.take (j + 1)) (by rw [List.length_take]; omega) fun x hx => hrb x (hp.mem_iff.mp (List.mem_of_mem_take hx))
  omega
theorem take_word {ww mm i : Nat} {l : List Nat} (hi : i < mm) (h8 : mm ≤ 8) (h9 : 9 ≤ ww) (hL : ww ≤ 1208) (hb : ∀ x ∈ l, x < mm) : Sm ((wordN (2 ^ ww) (l.take i) : Nat) : Int) := by
  have h := word_lt (l := l.take i) h9 h8 fun x hx => hb x (List.mem_of_mem_take hx)
  exact sm_any h (mw_le (mm := mm) (by rw [List.length_take]; omega) h8 hL)
theorem ob_l {ww mm i : Nat} {row rs : List Nat} {c : WS} (H : WP ww row rs i c) (hi : i < mm) (h8 : mm ≤ 8) (h9 : 9 ≤ ww) (hL : ww ≤ 1208) (hrb : ∀ x ∈ row, x < mm) (hp : rs.Perm row) : Sm c.l ∧ Sm (2 ^ ((ww : Nat) : Int).toNat) := by
  refine ⟨?_, two_sm hL⟩
  rw [H.l]
  exact take_word hi h8 h9 hL fun x hx => hrb x (hp.mem_iff.mp hx)
theorem ob_ww {ww : Nat} (hL : ww ≤ 1208) : 0 ≤ (ww : Int) ∧ (ww : Int) ≤ 100000 := ⟨by omega, by omega⟩
theorem ob_w {ww mm i : Nat} {row rs : List Nat} {c : WS} (H : WP ww row rs i c) (hi : i < mm) (h8 : mm ≤ 8) (h9 : 9 ≤ ww) (hL : ww ≤ 1208) (hrb : ∀ x ∈ row, x < mm) : 0 ≤ (ww : Int) ∧ (ww : Int) ≤ 100000 ∧ Sm c.w := by
  refine ⟨by omega, by omega, ?_⟩
  rw [H.w]
  exact take_word hi h8 h9 hL hrb
theorem ob_idx {i : Nat} {l : List Nat} (hi : i < l.length) : 0 ≤ (0 : Int) + (i : Int) ∧ ((0 : Int) + (i : Int)).toNat < (l.map fun (n : Nat) => (n : Int)).length := by
  rw [List.length_map]; omega
theorem ob_63 {i m : Nat} (hi : i < m) (h8 : m ≤ 8) : (0 : Int) + (i : Int) < 2 ^ 63 := by
  rw [show (2 : Int) ^ 63 = 9223372036854775808 by decide]; omega
theorem ob_abs (x : Int) : Sm 2 ∧ Sm (x.fmod 1000) := by
  refine ⟨sm_le (n := 2) (by decide), ?_⟩
  rw [fmod_pos (by decide)]
  have h : x % 1000 = ((x % 1000).toNat : Int) := by omega
  rw [h]
  exact sm_le (by omega)
theorem ob_rm {rm mm ww : Nat} (h : rm ≤ mm * ww + 23) (h8 : mm ≤ 8) (hL : ww ≤ 1208) : 0 ≤ (rm : Int) ∧ (rm : Int) ≤ 100000 ∧ Sm 1 := by
  have := mw_le (Nat.le_refl mm) h8 hL
  exact ⟨by omega, by omega, sm_one⟩
theorem ob_mw {mm ww : Nat} (h8 : mm ≤ 8) (hL : ww ≤ 1208) : Sm (mm : Int) ∧ Sm (ww : Int) := ⟨sm_le (by omega), sm_le (by omega)⟩
theorem ob_m1 {mm : Nat} (h5 : 5 ≤ mm) (h8 : mm ≤ 8) : Sm (mm : Int) ∧ Sm ((mm : Int) - 1) := by
  have e : (mm : Int) - 1 = ((mm - 1 : Nat) : Int) := by omega
  rw [e]
  exact ⟨sm_le (by omega), sm_le (by omega)⟩
theorem ob_len {av : List Value} {x : Value} {row : List Nat} {mm : Nat} (h : IntsAre (av ++ [x]) (row.map fun (n : Nat) => (n : Int))) (hl : row.length = mm) (h8 : mm ≤ 8) : av.length + [x].length ≤ sizeLine := by
  have := h.length
  rw [List.length_append, List.length_map] at this
  exact due_sz (by omega)
theorem ob_len2 {dv ev : List Value} {ns : List Int} {mm : Nat} (hd : IntsAre dv ns) (he : IntsAre ev ms) (hl : (ns ++ ms).length = mm) (h8 : mm ≤ 8) : dv.length + ev.length ≤ sizeLine := by
  have := hd.length
  have := he.length
  rw [List.length_append] at hl
  exact due_sz (by omega)
theorem ob_dv {dv : List Value} {ns : List Int} {mm : Nat} (hd : IntsAre dv ns) (hl : ns.length ≤ mm) (h8 : mm ≤ 8) : ((dv.length : Nat) : Int) < 2 ^ 63 := by
  have := hd.length
  rw [show (2 : Int) ^ 63 = 9223372036854775808 by decide]; omega
theorem ob_marks {mm ww : Nat} (h8 : mm ≤ 8) (h9 : 9 ≤ ww) (hL : ww ≤ 1208) : 0 ≤ (ww : Int) - 1 ∧ (ww : Int) - 1 ≤ 100000 ∧ Sm ((everyN mm ww : Nat) : Int) :=
  ⟨by omega, by omega, sm_any (every_lt mm) (mw_le (Nat.le_refl mm) h8 hL)⟩
theorem ob_w1 {ww : Nat} (hL : ww ≤ 1208) : 0 ≤ (ww : Int) ∧ (ww : Int) ≤ 100000 ∧ Sm 1 := ⟨by omega, by omega, sm_one⟩
theorem ob_lined {mm ww : Nat} {row rs : List Nat} (h8 : mm ≤ 8) (h9 : 9 ≤ ww) (hL : ww ≤ 1208) (hl : row.length = mm) (hb : ∀ x ∈ row, x < mm) (hp : rs.Perm row) : 0 ≤ (ww : Int) ∧ (ww : Int) ≤ 100000 ∧ Sm ((wordN (2 ^ ww) rs : Nat) : Int) :=
  ⟨by omega, by omega, sm_any (word_lt h9 h8 fun x hx => hb x (hp.mem_iff.mp hx)) (mw_le (mm := mm) (by rw [hp.length_eq, hl]; exact Nat.le_refl _) h8 hL)⟩
theorem range_at {mm i : Nat} (hi : i < mm) : (List.range mm).getD i 0 = i := by
  simp [List.getD_eq_getElem?_getD, hi]
theorem ob_o1 {mm i : Nat} {row : List Nat} (hi : i < mm) : (row.map fun (n : Nat) => (n : Int)).getD ((0 : Int) + (i : Int)).toNat 0 = (row.map cI).getD ((List.range mm).getD i 0) 0 := by
  rw [range_at hi, tn_zero]
theorem ob_o2 {mm i : Nat} (hi : i < mm) : (0 : Int) + (i : Int) = (((List.range mm).getD i 0 : Nat) : Int) := by
  rw [range_at hi]; omega
theorem g_ff {l : List Int} {z : TT} (_h1 : (l.any fun x => x == z.a) = true) (h2 : (l.any fun x => x == z.b) = true) : false = gOut l z := by
  unfold gOut; rw [h2]; simp
theorem g_tt {l : List Int} {z : TT} (h1 : (l.any fun x => x == z.a) = true) (h2 : (l.any fun x => x == z.b) = false) : true = gOut l z := by
  unfold gOut; rw [h1, h2]; rfl
theorem g_f {l : List Int} {z : TT} (h1 : (l.any fun x => x == z.a) = false) : false = gOut l z := by
  unfold gOut; rw [h1]; rfl
theorem ob_k1 {mm ww i : Nat} (hi : i < mm) (h9 : 9 ≤ ww) : 0 ≤ ((mm : Int) - ((1 : Int) + (i : Int)) + 1) * (ww : Int) - 1 := by
  have e1 : (mm : Int) - ((1 : Int) + (i : Int)) + 1 = ((mm - i : Nat) : Int) := by omega
  rw [e1, ← Int.natCast_mul]
  have : 1 * 9 ≤ (mm - i) * ww := Nat.mul_le_mul (by omega) h9
  omega
theorem ob_k2 {mm ww i : Nat} (hi : i < mm) (h8 : mm ≤ 8) (hL : ww ≤ 1208) : Sm ((mm : Int) - ((1 : Int) + (i : Int)) + 1) ∧ Sm (ww : Int) := by
  have e1 : (mm : Int) - ((1 : Int) + (i : Int)) + 1 = ((mm - i : Nat) : Int) := by omega
  rw [e1]
  exact ⟨sm_le (by omega), sm_le (by omega)⟩
theorem bne_no {b : Bool} (h : (b != b) = true) : False := by cases b <;> cases h
end Mine
end
section
open PySem PySem.W PyProof.Rows
set_option maxRecDepth 100000
namespace Mine
local macro_rules | `(tactic| walk_at "binaryOp LShift int int") => `(tactic| (k_here; with_reducible refine r_lsh ?_ ?_))
local macro_rules | `(tactic| walk_at "inplaceOp LShift int int") => `(tactic| (k_here; with_reducible refine r_ilsh ?_ ?_))
local macro_rules | `(tactic| walk_at "binaryOp Mult int int") => `(tactic| (k_here; with_reducible refine r_mul ?_ ?_))
local macro_rules | `(tactic| walk_at "binaryOp FloorDiv int int") => `(tactic| (k_here; with_reducible refine r_fdiv ?_ ?_))
local macro_rules | `(tactic| walk_at "binaryOp Mod int int") => `(tactic| (k_here; with_reducible refine r_mod ?_ ?_))
local macro_rules | `(tactic| walk_at "binaryOp RShift int int") => `(tactic| (k_here; with_reducible refine r_rsh ?_ ?_))
local macro_rules | `(tactic| walk_at "inplaceOp RShift int int") => `(tactic| (k_here; with_reducible refine r_irsh ?_ ?_))
local macro_rules | `(tactic| walk_at "call builtin:divmod") => `(tactic| (k_here; k_dflt (refine' r_divmod ?k1 ?k2 ?_ ?_; (case k1 => k_asm); (case k2 => k_asm)); intro p9 h9 F9 N9 l9; (try k_lt l9)))
local macro_rules | `(tactic| walk_at "call builtin:list.append") => `(tactic| (k_here; k_dflt (refine' r_append ?k1 ?k2 ?k3 ?_ ?_; (case k1 => k_asm); (case k2 => k_asm); (case k3 => k_upd)); intro h' F' N'; (try k_sweep)))
local macro_rules | `(tactic| walk_at "call ref") => `(tactic| (k_here; k_extra "mycall"))

local macro_rules | `(tactic| walk_at "exec For Name Name cons nil") => `(tactic| (k_here; k_dflt (refine For_G ?_ ?hs; (case hs => intro _; rfl))))
local macro_rules | `(tactic| walk_at "exec For Name Call cons nil") => `(tactic| (k_here; k_dflt (refine For_G ?_ ?hs; (case hs => intro _; rfl))))
local macro_rules | `(tactic| walk_at "exec For Name Subscript cons nil") => `(tactic| (k_here; k_dflt (refine For_G ?_ ?hs; (case hs => intro _; rfl))))
local macro_rules | `(tactic| walk_at "exec For Name BinOp cons nil") => `(tactic| (k_here; k_dflt (refine For_G ?_ ?hs; (case hs => intro _; rfl))))
local macro_rules | `(tactic| walk_at "exec For Tuple Name cons nil") => `(tactic| (k_here; k_dflt (refine For_G ?_ ?hs; (case hs => intro _; rfl))))
local macro_rules | `(tactic| walk_at "pyIter ref") => `(tactic| (k_here; first | k_extra "pyIter ref" | refine Ob.out ?_))
local macro_rules | `(tactic| walk_at "LtPost") => `(tactic| (dsimp only [LtPost]))
local macro_rules | `(tactic| walk_at "LtEnd") => `(tactic| (k_extra "ltend"))
local macro_rules | `(tactic| k_all) => `(tactic| assumption)
local macro_rules | `(tactic| k_ne) => `(tactic| (refine neN ?_; assumption))

local macro_rules | `(tactic| walk_at "binaryOp Add ref ref") => `(tactic| (k_here; k_dflt (refine' r_addl ?k1 ?k2 ?k3 ?k4 ?_ ?_; (case k1 => k_asm); (case k2 => k_asm); (case k3 => kcj_m); (case k4 => kcj_m)); intro D9 h9 F9 N9 l9; (try k_lt l9)))

local macro_rules | `(tactic| walk_at "assign Tuple") => `(tactic| (k_here; k_dflt (refine' r_unpair rfl ?k1 ?k2 ?k3 ?_; (case k1 => k_asm); (case k2 => k_asm); (case k3 => kcj_m)); intro h' F' N'))
local macro_rules | `(tactic| walk_at "eval Name") => `(tactic| (k_here; (with_reducible show wpAny _ _ (eval (Expr.Name _ _) (compEnvC _ _ _ _)) _ _ _); k_dflt (refine' lcf_cell ?N ?c ?m ?d ?_ ?a ?b; (case a => rfl); (case b => rfl); (case N => k_asm); (case c => rfl); (case m => kcj_m); (case d => assumption); k_whole)))
local macro_rules | `(tactic| walk_at "eval ListComp") => `(tactic| (k_here; (with_reducible show wpAny _ _ (eval (Expr.ListComp _ [⟨Expr.Tuple _ _ _, _, _, _⟩] _ _) _) _ _ _); k_dflt (refine LCp.ListComp_P (F₀ := by k_asm) (by with_unfolding_all rfl) (by decide) (by rfl) (by decide) (by rfl) (by rfl) (by decide) ?_)))
local macro_rules | `(tactic| walk_at "eval ListComp") => `(tactic| (k_here; (with_reducible show wpAny _ _ (eval (Expr.ListComp _ [⟨Expr.Name _ _, _, _, _⟩] _ _) _) _ _ _); k_dflt (refine LCg.ListComp_U (F₀ := by k_asm) (by with_unfolding_all rfl) (by decide) (by rfl) (by decide) (by rfl) ?_)))
local macro_rules | `(tactic| walk_at "eval ListComp") => `(tactic| (k_here; (with_reducible show wpAny _ _ (eval (Expr.ListComp _ [⟨Expr.Name _ _, _, [_], _⟩] _ _) _) _ _ _); k_dflt (refine LCt.ListComp_T (F₀ := by k_asm) (by with_unfolding_all rfl) (by decide) (by rfl) (by decide) (by rfl) ?_)))
local macro_rules | `(tactic| walk_at "CompSrcT") => `(tactic| (k_extra "compsrct"))
local macro_rules | `(tactic| walk_at "CTEnd") => `(tactic| (k_dflt (refine' CTEnd.intro ?e1 ?e2 ?e3 ?_; (case e1 => k_asm); (case e2 => k_asm); (case e3 => kcj_in))))
local macro_rules | `(tactic| walk_at "CompSrc") => `(tactic| (k_extra "compsrc"))
local macro_rules | `(tactic| walk_at "CIEnd") => `(tactic| (k_dflt (refine' CIEnd.intro ?e1 ?e2 ?e3 ?_; (case e1 => k_asm); (case e2 => k_asm); (case e3 => kcj_in))))
local macro_rules | `(tactic| walk_at "SrcLP") => `(tactic| (k_extra "srclp"))
local macro_rules | `(tactic| walk_at "CPEnd") => `(tactic| (k_dflt (refine' CPEnd.intro ?e1 ?e2 ?e3 ?_ ?_; (case e1 => k_asm); (case e2 => k_asm); (case e3 => exact ktn_ltOf (by assumption)))))

local macro_rules | `(tactic| walk_at "call type:set nil nil") => `(tactic| (k_here; k_dflt (refine r_setnew (by k_asm) (by k_asm) ?_); intro d' h' F' N' l1; have lSet := l1; (try k_lt l1)))
local macro_rules | `(tactic| walk_at "call builtin:sorted") => `(tactic| (k_here; k_extra "sorted"))

local macro_rules | `(tactic| walk_at "call type:list") => `(tactic| (k_here; k_dflt (first
  | ((refine' kup_listOf ?lF ?lN ?lb rfl ?_ ?lz; (case lF => k_asm); (case lN => k_asm); (case lb => kcj_m); (case lz => k_extra "lsize")); intro D9 c9 h9 F9 N9 l9; (try k_lt l9))
  | ((rename IsRange _ _ _ _ _ _ _ _ => rgX); (refine' kll_range rfl ?lF ?lN rgX ?ls ?ln ?lz ?_; (case lF => k_asm); (case lN => k_asm); (case ls => exact small_one (by omega) (by omega) (by omega) (by omega)); (case ln => exact rangeSize_nat _ _); (case lz => k_extra "lrsize")); k_extra "lrange"))))
local macro_rules | `(tactic| walk_at "compareOp NotEq ref ref") => `(tactic| (k_here; first | k_dflt (refine' r_ne_nil ?zN ?za ?zb ?zi ?zu ?_; (case zN => k_asm); (case za => kcj_m); (case zb => kcj_m); (case zi => assumption); (case zu => cb_units)) | refine Ob.out ?_))
local macro_rules | `(tactic| walk_at "exec While Compare cons nil") => `(tactic| (k_here; first | k_extra "while" | refine Ob.out ?_))
local macro_rules | `(tactic| walk_at "exec Assign cons ListComp") => `(tactic| (k_here; (with_reducible show wpAny _ _ (exec (Stmt.Assign [PySem.Expr.Name _ _] (PySem.Expr.ListComp _ [⟨PySem.Expr.Tuple _ _ _, _, _, _⟩] _ _) _) _) _ _ _); first | k_dflt (refine LCp.Assign_ListComp_P (F₀ := by k_asm) (by rfl) (by with_unfolding_all rfl) (by with_unfolding_all rfl) (by decide) (by rfl) (by decide) (by rfl) (by rfl) (by decide) (by rfl) (by rfl) ?_) | refine Ob.out ?_))
local macro_rules | `(tactic| walk_at "call builtin:list.pop") => `(tactic| (k_here; first | k_extra "pop" | refine Ob.out ?_))
local macro_rules | `(tactic| walk_at "eval Name") => `(tactic| (k_here; (with_reducible show wpAny _ _ (eval (PySem.Expr.Name _ _) (envOfC _ _ _ _ _)) _ _ _); k_dflt (refine' nameX_C ?xN ?xc ?xm ?xd ?_ ?xa ?xb; (case xa => rfl); (case xb => rfl); (case xN => k_asm); (case xc => rfl); (case xm => kcj_m); (case xd => assumption); k_whole)))
local macro_rules | `(tactic| walk_at "subscriptTail Name Slice ref ref") => `(tactic| (k_here; first
  | (k_dflt (refine' r_upto ?gF ?gN ?gm ?gi ?g0 ?gz ?_ ?gs ?gt; (case gF => k_asm); (case gN => k_asm); (case gm => kcj_m); (case gi => k_extra "slicei"); (case g0 => k_extra "slice0"); (case gz => k_extra "slicez"); (case gs => with_unfolding_all rfl); (case gt => kmk_pure)); k_extra "slicek")
  | (k_dflt (refine' r_from ?gF ?gN ?gm ?gi ?g0 ?gz ?_ ?gs ?gt; (case gF => k_asm); (case gN => k_asm); (case gm => kcj_m); (case gi => k_extra "slicei"); (case g0 => k_extra "slice0"); (case gz => k_extra "slicez"); (case gs => with_unfolding_all rfl); (case gt => kmk_pure)); k_extra "slicek")
  | refine Ob.out ?_))
local macro_rules | `(tactic| walk_at "WtPost") => `(tactic| (dsimp only [WtPost]))
local macro_rules | `(tactic| walk_at "WtEnd") => `(tactic| (k_extra "wtend"))

local macro_rules | `(tactic| walk_at "subscriptTail Name Name ref int") => `(tactic| (k_here; k_dflt (refine' r_item ?k1 ?k2 ?k3 ?_ ?_ ?_; (case k1 => k_asm); (case k2 => kcj_m); (case k3 => assumption)); intro t9))
local macro_rules | `(tactic| walk_at "subscriptTail Name Constant ref int") => `(tactic| (k_here; k_dflt (refine' r_item ?k1 ?k2 ?k3 ?_ ?_ ?_; (case k1 => k_asm); (case k2 => kcj_m); (case k3 => assumption)); intro t9))
local macro_rules | `(tactic| walk_at "call builtin:len") => `(tactic| (k_here; k_dflt (refine' r_len ?k1 ?k2 ?_ ?_; (case k1 => k_asm); (case k2 => kcj_m))))

local macro_rules | `(tactic| walk_at "eval IfExp") => `(tactic| (k_here; first | k_extra "ifexp" | refine Ob.out ?_))
local macro_rules | `(tactic| walk_at "JoinEnd") => `(tactic| (k_dflt (refine' JoinEnd.intro ?e1 ?e2 ?e3 ?e4 ?e6 ?e7 ?_; (case e1 => k_asm); (case e2 => k_asm); (case e3 => kcj_m); (case e4 => kcj_in); (case e6 => first | assumption | exact .cons _ _ .nil); (case e7 => first | rfl | k_extra "joinlen"))))
local macro_rules | `(tactic| walk_at "call builtin:sorted") => `(tactic| (k_here; first | k_extra "sorted" | refine Ob.out ?_))
local macro_rules | `(tactic| walk_at "storeName") => `(tactic| (k_here; k_extra "store"))
local macro_rules | `(tactic| walk_at "subscriptTail Name Slice ref ref") => `(tactic| (k_here; first | k_extra "slice" | refine Ob.out ?_))
local macro_rules | `(tactic| walk_at "subscriptTail List cons Slice ref ref") => `(tactic| (k_here; first | k_extra "slice2" | refine Ob.out ?_))
local macro_rules | `(tactic| walk_at "call builtin:sum") => `(tactic| (k_here; first | (k_dflt (refine' r_sum ?sh ?sF ?sN ?sq ?si ?_; (case sh => with_unfolding_all rfl); (case sF => k_asm); (case sN => k_asm); (case sq => kcj_m); (case si => assumption)); intro h' tk' t' F' N') | refine Ob.out ?_))
local macro_rules | `(tactic| walk_at "exec Assign cons ListComp") => `(tactic| (k_here; (with_reducible show wpAny _ _ (exec (Stmt.Assign [PySem.Expr.Name _ _] (PySem.Expr.ListComp _ [⟨PySem.Expr.Name _ _, _, [], _⟩] _ _) _) _) _ _ _); first | k_dflt (refine LCg.Assign_ListComp_U (F₀ := by k_asm) (by rfl) (by with_unfolding_all rfl) (by with_unfolding_all rfl) (by decide) (by rfl) (by decide) (by rfl) (by rfl) (by rfl) ?_) | refine Ob.out ?_))
local macro_rules | `(tactic| walk_at "binaryOp Pow int int") => `(tactic| (k_here; with_reducible refine r_pow2 ?_ ?_))

local macro_rules | `(tactic| walk_at "call ref") => `(tactic| (k_here; first | k_extra "mycall" | refine Ob.out ?_))
local macro_rules | `(tactic| walk_at "eval BoolOp") => `(tactic| (k_here; k_extra "boolop"))
local macro_rules | `(tactic| walk_at "exec Assign cons ListComp") => `(tactic| (k_here; (with_reducible show wpAny _ _ (exec (Stmt.Assign [PySem.Expr.Name _ _] (PySem.Expr.ListComp _ [⟨PySem.Expr.Tuple _ _ _, _, [], _⟩] _ _) _) _) _ _ _); first | k_dflt (refine wpAny_Assign_Name ?_ ?hs; (case hs => with_unfolding_all rfl)) | refine Ob.out ?_))
local macro_rules | `(tactic| walk_at "exec Assign cons ListComp") => `(tactic| (k_here; (with_reducible show wpAny _ _ (exec (Stmt.Assign [PySem.Expr.Name _ _] (PySem.Expr.ListComp _ [⟨PySem.Expr.Tuple _ _ _, _, [_], _⟩] _ _) _) _) _ _ _); first | k_dflt (refine Assign_PTF (by k_asm) (by rfl) (by with_unfolding_all rfl) (by with_unfolding_all rfl) (by decide) (by rfl) (by decide) (by rfl) (by rfl) (by decide) (by rfl) (by rfl) ?_) | refine Ob.out ?_))
local macro_rules | `(tactic| walk_at "SrcPT") => `(tactic| (k_here; first | k_extra "srcpt" | refine Ob.out ?_))
local macro_rules | `(tactic| walk_at "compareOp In int ref") => `(tactic| (k_here; first | k_dflt (refine' r_in ?zN ?za ?zi ?_; (case zN => k_asm); (case za => kcj_m); (case zi => assumption)) | refine Ob.out ?_))
local macro_rules | `(tactic| walk_at "compareOp NotIn int ref") => `(tactic| (k_here; first | k_dflt (refine' r_notin ?zN ?za ?zi ?_; (case zN => k_asm); (case za => kcj_m); (case zi => assumption)) | refine Ob.out ?_))
local macro_rules | `(tactic| walk_at "compareOp Eq ref ref") => `(tactic| (k_here; first | k_extra "eqnil" | refine Ob.out ?_))
local macro_rules | `(tactic| walk_at "JoinB") => `(tactic| (k_here; first | k_dflt (refine' JoinB.intro ?e1 ?e2 ?e3 ?_; (case e1 => k_asm); (case e2 => k_asm); (case e3 => kcj_in)) | refine Ob.out ?_))
local macro_rules | `(tactic| walk_at "compareOp NotEq ref ref") => `(tactic| (k_here; first | k_extra "nepairs" | refine Ob.out ?_))
set_option maxHeartbeats 8000000 in
theorem w_law : PySem.Challenge.rw_we0001_02.Holds := hd (by
  k_go0
  rename IntsAre _ _ => hI0
  obtain ⟨mm, hmm, hm5, hm8⟩ := many_of hI0
  (all_goals try k_fold)
  (iterate 4 (rename (_ = Data.cell (bindC _ _ _ _)) => dX; (obtain ⟨vX, hX⟩ : ∃ v, _ = Data.cell v := ⟨_, dX⟩); clear dX))
  (try (rename CellsAre _ _ => dX; clear dX))
  (try (rename Dflts _ _ _ _ => dX; clear dX))
  (try (rename Heap.CodeRec _ _ _ => dX; clear dX))
  k_with "mycall" => k_dflt (first | (refine' c_isub _ _ _ _ _ _ _ _ _ _ _ _ _ _ _ _ _ _ _ _ _ _ _ _ _ _ ?k1 ?k2 ?k3 ?k4 ?k5 ?kK ?kd ?ku ?_; (case k1 => k_asm); (case k2 => k_asm); (case k3 => k_asm); (case k4 => k_asm); (case k5 => k_asm); (case kK => exact rfl); (case kd => cb_room); (case ku => cb_units); intro t9 h9 tk9 F9 N9) | (refine' c_iadd _ _ _ _ _ _ _ _ _ _ _ _ _ _ _ _ _ _ _ _ _ _ _ _ _ _ ?k1 ?k2 ?k3 ?k4 ?k5 ?kK ?kd ?ku ?_; (case k1 => k_asm); (case k2 => k_asm); (case k3 => k_asm); (case k4 => k_asm); (case k5 => k_asm); (case kK => exact rfl); (case kd => cb_room); (case ku => cb_units); intro t9 h9 tk9 F9 N9) | (refine' c_iand _ _ _ _ _ _ _ _ _ _ _ _ _ _ _ _ _ _ _ _ _ _ _ _ _ _ ?k1 ?k2 ?k3 ?k4 ?k5 ?kK ?kd ?ku ?_; (case k1 => k_asm); (case k2 => k_asm); (case k3 => k_asm); (case k4 => k_asm); (case k5 => k_asm); (case kK => exact rfl); (case kd => cb_room); (case ku => cb_units); intro t9 h9 tk9 F9 N9) | (refine' c_ixor _ _ _ _ _ _ _ _ _ _ _ _ _ _ _ _ _ _ _ _ _ _ _ _ _ _ ?k1 ?k2 ?k3 ?k4 ?k5 ?kK ?kd ?ku ?_; (case k1 => k_asm); (case k2 => k_asm); (case k3 => k_asm); (case k4 => k_asm); (case k5 => k_asm); (case kK => exact rfl); (case kd => cb_room); (case ku => cb_units); intro t9 h9 tk9 F9 N9) | (refine' c_ilshift _ _ _ _ _ _ _ _ _ ?_ _ _ _ _ _ _ _ _ _ _ _ _ _ _ _ _ _ ?k1 ?k2 ?k3 ?k4 ?k5 ?kK ?kd ?ku ?_; (case k1 => k_asm); (case k2 => k_asm); (case k3 => k_asm); (case k4 => k_asm); (case k5 => k_asm); (case kK => exact rfl); (case kd => cb_room); (case ku => cb_units); rotate_left; intro t9 h9 tk9 F9 N9))
  k_with "store" => ((with_reducible show wpAny _ _ (storeName _ (Str.ofString "many") _) _ _ _); rw [hmm])
  k_with "slice" => ((with_reducible show wpAny _ _ (subscriptTail (PySem.Expr.Name (Str.ofString "script") _) _ _ _) _ _ _); k_dflt (refine' kmk_slice_ints ?gF ?gN ?gl IsPart.none (IsPart.int _ _) hI0 (kmk_upto hI0 (Int.natCast_nonneg _)) rfl ?_ ?gs ?gt ?gz; (case gF => k_asm); (case gN => k_asm); (case gl => kmk_list); (case gs => with_unfolding_all rfl); (case gt => kmk_pure); (case gz => kmk_size)); intro D1 dv h1 F' N' l1 hdv0 _ _; (try k_lt l1); obtain ⟨dr, hdv, hdl⟩ := drawn_of hdv0 hm8; clear hdv0)
  k_with "store" => ((with_reducible show wpAny _ _ (storeName _ (Str.ofString "games") _) _ _ _); rw [games_of hm5])
  k_with "store" => ((with_reducible show wpAny _ _ (storeName _ (Str.ofString "wide") _) _ _ _); obtain ⟨ww, hww, hw9, hwL⟩ := wide_of dr.sum; rw [hww])
  k_with "store" => ((with_reducible show wpAny _ _ (storeName _ (Str.ofString "room") _) _ _ _); obtain ⟨rm, hrm, hrm1, hrm2⟩ := room_of mm ww dr.sum; rw [hrm])
  k_with "store" => ((with_reducible show wpAny _ _ (storeName _ (Str.ofString "common") _) _ _ _); obtain ⟨cm, hcm, hcm1, hcm2⟩ := common_of (if dr.sum < 0 then -dr.sum else dr.sum) hm8 hwL hm5 hw9 hrm1 hrm2; rw [hcm]; replace hcm1 := Ob.mk hcm1; replace hcm2 := Ob.mk hcm2)
  k_with "slice" => ((with_reducible show wpAny _ _ (subscriptTail (PySem.Expr.Name (Str.ofString "wins") _) (PySem.Expr.Slice none _ _ _) _ _) _ _ _); (try dsimp only); k_dflt (refine' r_slice (s := ⟨_, _, _, _, _⟩) ?gF ?gN ?gm IsPart.none (IsPart.int _ _) hwn (kmk_upto_neg hwn (by decide)) ?gz ?_ ?gs ?gt; (case gF => k_asm); (case gN => k_asm); (case gm => kcj_m); (case gz => exact due_sz (by omega)); (case gs => with_unfolding_all rfl); (case gt => kmk_pure)); intro D4 av h4 F' N' l4 hav; (try k_lt l4))
  k_with "slice" => ((with_reducible show wpAny _ _ (subscriptTail (PySem.Expr.Name (Str.ofString "wins") _) (PySem.Expr.Slice (some _) none _ _) _ _) _ _ _); (try dsimp only); k_dflt (refine' r_slice (s := ⟨_, _, _, _, _⟩) ?gF ?gN ?gm (IsPart.int _ _) IsPart.none hwn (kmk_from_neg hwn (by decide)) ?gz ?_ ?gs ?gt; (case gF => k_asm); (case gN => k_asm); (case gm => kcj_m); (case gz => exact due_sz (by omega)); (case gs => with_unfolding_all rfl); (case gt => kmk_pure)); intro D4' bv h4' F' N' l4' hbv; (try k_lt l4'))
  k_with "ifexp" => k_dflt (refine' r_join (fun x => 0 ≤ x ∧ x < (mm : Int)) ?jF ?jN ?_ ?_; (case jF => k_asm); (case jN => k_asm); rotate_left; intro D5 xr tr k5 h5 tk5 F' N' hx5; have q8 := apart_cell N' List.mem_cons_self (List.mem_cons_of_mem _ (List.mem_cons_of_mem _ (List.mem_cons_of_mem _ (List.mem_cons_of_mem _ (List.mem_cons_of_mem _ (List.mem_cons_of_mem _ (List.mem_cons_of_mem _ (List.mem_cons_of_mem _ List.mem_cons_self)))))))) (by assumption); have q9 := apart_cell N' List.mem_cons_self (List.mem_cons_of_mem _ (List.mem_cons_of_mem _ (List.mem_cons_of_mem _ (List.mem_cons_of_mem _ (List.mem_cons_of_mem _ (List.mem_cons_of_mem _ (List.mem_cons_of_mem _ (List.mem_cons_of_mem _ (List.mem_cons_of_mem _ List.mem_cons_self))))))))) (by assumption); have q10 := apart_cell N' List.mem_cons_self (List.mem_cons_of_mem _ (List.mem_cons_of_mem _ (List.mem_cons_of_mem _ (List.mem_cons_of_mem _ (List.mem_cons_of_mem _ (List.mem_cons_of_mem _ (List.mem_cons_of_mem _ (List.mem_cons_of_mem _ (List.mem_cons_of_mem _ (List.mem_cons_of_mem _ List.mem_cons_self)))))))))) (by assumption); have q11 := apart_cell N' List.mem_cons_self (List.mem_cons_of_mem _ (List.mem_cons_of_mem _ (List.mem_cons_of_mem _ (List.mem_cons_of_mem _ (List.mem_cons_of_mem _ (List.mem_cons_of_mem _ (List.mem_cons_of_mem _ (List.mem_cons_of_mem _ (List.mem_cons_of_mem _ (List.mem_cons_of_mem _ (List.mem_cons_of_mem _ List.mem_cons_self))))))))))) (by assumption);  obtain ⟨row, hrow, hrl, hrb⟩ := row_of (t := tr) hav hwl hm5 hwb hx5; rotate_left)
  k_with "joinlen" => exact (last_ok hwl hm5 hwb).1
  k_with "sorted" => k_dflt (refine' r_sorted_ints ?sF ?sN ?sq hrow ?sz ?_; (case sF => k_asm); (case sN => k_asm); (case sq => kcj_m); (case sz => (rw [List.length_map]; omega)); intro D6 rsv rsI c6 h6 F' N' l6 hrs hrp hro; (try k_lt l6); obtain ⟨rs, hrsv, hrsp, hrss⟩ := sorted_nat hrs hrp hro; clear hrs hrp hro; have hrsl := hrsp.length_eq)
  k_with "slice" => ((with_reducible show wpAny _ _ (subscriptTail (PySem.Expr.Name (Str.ofString "rising") _) _ _ _) _ _ _); (try dsimp only); k_dflt (refine' r_slice (s := ⟨_, _, _, _, _⟩) ?gF ?gN ?gm IsPart.none (IsPart.int _ _) hrsv (kmk_upto hrsv (by omega)) ?gz ?_ ?gs ?gt; (case gF => k_asm); (case gN => k_asm); (case gm => kcj_m); (case gz => exact due_sz (by rw [List.length_map]; omega)); (case gs => with_unfolding_all rfl); (case gt => kmk_pure)); intro D8 cv h8 F' N' l8 hcv; (try k_lt l8))
  k_with "pyIter ref" => (
    (with_reducible show wpAny _ _ _ (fun it s₂ => LoopG _ _ _ _ _ (Stmt.Assign [PySem.Expr.Name (Str.ofString "word") _] _ _ :: _) _ _ it s₂) _ _)
    (rename News _ _ _ _ => lN8); have hneR := (rest_l lN8 (List.mem_cons_of_mem _ (List.mem_cons_of_mem _ (List.mem_cons_of_mem _ (List.mem_cons_of_mem _ (List.mem_cons_of_mem _ (List.mem_cons_of_mem _ (List.mem_cons_of_mem _ (List.mem_cons_of_mem _ (List.mem_cons_of_mem _ (List.mem_cons_of_mem _ (List.mem_cons_of_mem _ List.mem_cons_self))))))))))) (by assumption) List.mem_cons_self (rest_l lN8 (List.mem_cons_of_mem _ (List.mem_cons_of_mem _ (List.mem_cons_of_mem _ (List.mem_cons_of_mem _ (List.mem_cons_of_mem _ (List.mem_cons_of_mem _ (List.mem_cons_of_mem _ (List.mem_cons_of_mem _ (List.mem_cons_of_mem _ (List.mem_cons_of_mem _ (List.mem_cons_of_mem _ List.mem_cons_self))))))))))) (by assumption) (List.mem_cons_of_mem _ List.mem_cons_self) (rest_l lN8 (List.mem_cons_of_mem _ (List.mem_cons_of_mem _ (List.mem_cons_of_mem _ (List.mem_cons_of_mem _ (List.mem_cons_of_mem _ (List.mem_cons_of_mem _ (List.mem_cons_of_mem _ (List.mem_cons_of_mem _ (List.mem_cons_of_mem _ (List.mem_cons_of_mem _ (List.mem_cons_of_mem _ List.mem_cons_self))))))))))) (by assumption) (List.mem_cons_of_mem _ (List.mem_cons_of_mem _ List.mem_cons_self)) (rest_l lN8 (List.mem_cons_of_mem _ (List.mem_cons_of_mem _ (List.mem_cons_of_mem _ (List.mem_cons_of_mem _ (List.mem_cons_of_mem _ (List.mem_cons_of_mem _ (List.mem_cons_of_mem _ (List.mem_cons_of_mem _ (List.mem_cons_of_mem _ (List.mem_cons_of_mem _ (List.mem_cons_of_mem _ List.mem_cons_self))))))))))) (by assumption) (List.mem_cons_of_mem _ (List.mem_cons_of_mem _ (List.mem_cons_of_mem _ List.mem_cons_self))) (rest_l lN8 (List.mem_cons_of_mem _ (List.mem_cons_of_mem _ (List.mem_cons_of_mem _ (List.mem_cons_of_mem _ (List.mem_cons_of_mem _ (List.mem_cons_of_mem _ (List.mem_cons_of_mem _ (List.mem_cons_of_mem _ (List.mem_cons_of_mem _ (List.mem_cons_of_mem _ (List.mem_cons_of_mem _ List.mem_cons_self))))))))))) (by assumption) (List.mem_cons_of_mem _ (List.mem_cons_of_mem _ (List.mem_cons_of_mem _ (List.mem_cons_of_mem _ List.mem_cons_self)))) (rest_l lN8 (List.mem_cons_of_mem _ (List.mem_cons_of_mem _ (List.mem_cons_of_mem _ (List.mem_cons_of_mem _ (List.mem_cons_of_mem _ (List.mem_cons_of_mem _ (List.mem_cons_of_mem _ (List.mem_cons_of_mem _ (List.mem_cons_of_mem _ (List.mem_cons_of_mem _ (List.mem_cons_of_mem _ List.mem_cons_self))))))))))) (by assumption) (List.mem_cons_of_mem _ (List.mem_cons_of_mem _ (List.mem_cons_of_mem _ (List.mem_cons_of_mem _ (List.mem_cons_of_mem _ List.mem_cons_self))))) (rest_l lN8 (List.mem_cons_of_mem _ (List.mem_cons_of_mem _ (List.mem_cons_of_mem _ (List.mem_cons_of_mem _ (List.mem_cons_of_mem _ (List.mem_cons_of_mem _ (List.mem_cons_of_mem _ (List.mem_cons_of_mem _ (List.mem_cons_of_mem _ (List.mem_cons_of_mem _ (List.mem_cons_of_mem _ List.mem_cons_self))))))))))) (by assumption) (List.mem_cons_of_mem _ (List.mem_cons_of_mem _ (List.mem_cons_of_mem _ (List.mem_cons_of_mem _ (List.mem_cons_of_mem _ (List.mem_cons_of_mem _ List.mem_cons_self)))))) (rest_l lN8 (List.mem_cons_of_mem _ (List.mem_cons_of_mem _ (List.mem_cons_of_mem _ (List.mem_cons_of_mem _ (List.mem_cons_of_mem _ (List.mem_cons_of_mem _ (List.mem_cons_of_mem _ (List.mem_cons_of_mem _ (List.mem_cons_of_mem _ (List.mem_cons_of_mem _ (List.mem_cons_of_mem _ List.mem_cons_self))))))))))) (by assumption) (List.mem_cons_of_mem _ (List.mem_cons_of_mem _ (List.mem_cons_of_mem _ (List.mem_cons_of_mem _ (List.mem_cons_of_mem _ (List.mem_cons_of_mem _ (List.mem_cons_of_mem _ List.mem_cons_self))))))) (rest_l lN8 (List.mem_cons_of_mem _ (List.mem_cons_of_mem _ (List.mem_cons_of_mem _ (List.mem_cons_of_mem _ (List.mem_cons_of_mem _ (List.mem_cons_of_mem _ (List.mem_cons_of_mem _ (List.mem_cons_of_mem _ (List.mem_cons_of_mem _ (List.mem_cons_of_mem _ (List.mem_cons_of_mem _ List.mem_cons_self))))))))))) (by assumption) (List.mem_cons_of_mem _ (List.mem_cons_of_mem _ (List.mem_cons_of_mem _ (List.mem_cons_of_mem _ (List.mem_cons_of_mem _ (List.mem_cons_of_mem _ (List.mem_cons_of_mem _ (List.mem_cons_of_mem _ List.mem_cons_self)))))))) (rest_l lN8 (List.mem_cons_of_mem _ (List.mem_cons_of_mem _ (List.mem_cons_of_mem _ (List.mem_cons_of_mem _ (List.mem_cons_of_mem _ (List.mem_cons_of_mem _ (List.mem_cons_of_mem _ (List.mem_cons_of_mem _ (List.mem_cons_of_mem _ (List.mem_cons_of_mem _ (List.mem_cons_of_mem _ List.mem_cons_self))))))))))) (by assumption) (List.mem_cons_of_mem _ (List.mem_cons_of_mem _ (List.mem_cons_of_mem _ (List.mem_cons_of_mem _ (List.mem_cons_of_mem _ (List.mem_cons_of_mem _ (List.mem_cons_of_mem _ (List.mem_cons_of_mem _ (List.mem_cons_of_mem _ List.mem_cons_self))))))))) (rest_c lN8 (List.mem_cons_of_mem _ (List.mem_cons_of_mem _ (List.mem_cons_of_mem _ (List.mem_cons_of_mem _ (List.mem_cons_of_mem _ (List.mem_cons_of_mem _ (List.mem_cons_of_mem _ (List.mem_cons_of_mem _ (List.mem_cons_of_mem _ (List.mem_cons_of_mem _ List.mem_cons_self)))))))))) (Nat.ne_of_gt (Nat.lt_succ_self _)) (rest_c lN8 (List.mem_cons_of_mem _ (List.mem_cons_of_mem _ (List.mem_cons_of_mem _ (List.mem_cons_of_mem _ (List.mem_cons_of_mem _ (List.mem_cons_of_mem _ (List.mem_cons_of_mem _ (List.mem_cons_of_mem _ (List.mem_cons_of_mem _ (List.mem_cons_of_mem _ (List.mem_cons_of_mem _ (List.mem_cons_of_mem _ List.mem_cons_self)))))))))))) (Nat.ne_of_lt (Nat.lt_succ_self _)) (rest_c lN8 (List.mem_cons_of_mem _ (List.mem_cons_of_mem _ (List.mem_cons_of_mem _ (List.mem_cons_of_mem _ (List.mem_cons_of_mem _ (List.mem_cons_of_mem _ (List.mem_cons_of_mem _ (List.mem_cons_of_mem _ (List.mem_cons_of_mem _ (List.mem_cons_of_mem _ (List.mem_cons_of_mem _ (List.mem_cons_of_mem _ (List.mem_cons_of_mem _ List.mem_cons_self))))))))))))) (Nat.ne_of_lt (Nat.lt_succ_of_lt (Nat.lt_succ_self _))) (rest_nil lN8 (List.mem_cons_of_mem _ (List.mem_cons_of_mem _ (List.mem_cons_of_mem _ (List.mem_cons_of_mem _ (List.mem_cons_of_mem _ (List.mem_cons_of_mem _ (List.mem_cons_of_mem _ (List.mem_cons_of_mem _ (List.mem_cons_of_mem _ (List.mem_cons_of_mem _ (List.mem_cons_of_mem _ List.mem_cons_self))))))))))))))))))))))))); replace lN8 := news_front (A := [_, _, _, _, _, _, _, _, _, _, _]) lN8; (try dsimp only [List.cons_append, List.nil_append] at lN8)
    k_dflt (
    (rename Fr _ _ _ _ => lF'); (rename News _ _ _ _ => lN'); (rename IsRange _ _ _ _ _ _ _ _ => rgX)
    refine' lt_range (σ := WS) (fun c => [(_, c.c)]) [_, _, _, _, _, _, _, _, _, _, _, _, _] (fun c => [(Str.ofString "word", .int c.w c.tw), (Str.ofString "lined", .int c.l c.tl), (Str.ofString "sums", .int c.s c.ts), (Str.ofString "needed", .int c.n c.tn)]) [] (fun i c => WP ww row rs i c) ⟨_, _, _, _, _, _, _, _, _⟩ rfl rgX (small_one (by omega) (by omega) (by omega) (by omega)) (rangeSize_nat _ _) lF' (lN') ?lk ?lp ?_ ?_
    (case lk => first | exact List.forall_mem_nil _ | kst_all)
    (case lp => exact wp0 (by assumption))
    all_goals (try clear lF' lN')
    rotate_left
    rintro ⟨kc, w, tw, l, tl, sm, ts, nd, tn⟩ uA hA tkA hPA F' N'; (try dsimp only [List.cons_append, List.nil_append, kstB, lpM] at N' hPA F'); rw [tn_sub] at hPA; obtain ⟨⟨vk, hvk⟩, ew, el, es, en⟩ := hPA.fin hrl (hrsl.trans hrl); (try dsimp only at ew el es en hvk); subst ew; subst el; subst es; subst en
    rotate_left
    rintro ⟨kc, w, tw, l, tl, sm, ts, nd, tn⟩ iA tA uA IA itA sA hsA hiA hneA hikA hPA F' N'; (try dsimp only [List.cons_append, List.nil_append, kstB, lpM] at N' hneA hPA F'); rw [tn_sub] at hiA; obtain ⟨vk, hvk⟩ := hPA.d; have n1 := neN (hneA _ List.mem_cons_self); (try dsimp only at n1 hvk)))
  k_with "ltend" => k_dflt (
    (rename News _ _ _ _ => nE')
    refine' LtEnd.intro (σ := WS) ⟨_, _, _, _, _, _, _, _, _⟩ ?e1 nE' ?e3 ?e4 ?e5 ?e6 ?e7 ?e8
    (case e1 => k_asm); (case e6 => kst_all); (case e3 => kcj_in); (case e4 => kcj_m)
    (case e5 => (intro p hp; rw [List.mem_singleton.mp hp]; exact ne_it_cell hikA (by assumption)))
    (case e7 => exact same_of (Str.ofString "needed") (by kst_same) (.inl ⟨_, (List.mem_cons_of_mem _ (List.mem_cons_of_mem _ (List.mem_cons_of_mem _ List.mem_cons_self)))⟩))
    (case e8 => exact WP.next hPA hiA hrl hrsl (by assumption)))
  k_with "slice2" => (k_dflt (refine kba_turn (value' := PySem.Expr.Name (PySem.Str.ofString "_") ⟨0, 0, 0, 0⟩) (fun _ => rfl) ?_); (try dsimp only); k_dflt (refine' r_slice (s := ⟨_, _, _, _, _⟩) ?gF ?gN ?gm (IsPart.int _ _) (IsPart.int _ _) ?gi ?gq ?gz ?_ ?gs ?gt; (case gF => k_asm); (case gN => k_asm); (case gm => kcj_m); (case gi => exact ints8); (case gq => exact (kmk_run ints8 (Int.natCast_nonneg _) (Int.natCast_nonneg _))); (case gz => exact due_sz (by decide)); (case gs => with_unfolding_all rfl); (case gt => kmk_pure)); intro D2 ev h2 F' N' l2 hev0; (try k_lt l2); obtain ⟨el, hev, hel⟩ := fill_of hdv hdl hm8 hev0; clear hev0)
  k_with "compsrc" => k_dflt (
    refine' r_lci_listA (fun i => ((dr ++ el).getD i 0).fmod (mm : Int)) rfl ?cF ?cN ?cq ?cz ?_ ?_
    (case cF => k_asm); (case cN => k_asm); (case cq => kcj_m); (case cz => exact due_sz (by rw [(hdv.append hev).length]; omega))
    rotate_left
    intro D3 wv h3 tk3 hwv ho3 F' N'
    have q4 := neN (ho3 _ (List.mem_cons_of_mem _ (List.mem_cons_of_mem _ (List.mem_cons_of_mem _ (List.mem_cons_of_mem _ List.mem_cons_self))))); have q5 := neN (ho3 _ (List.mem_cons_of_mem _ (List.mem_cons_of_mem _ (List.mem_cons_of_mem _ (List.mem_cons_of_mem _ (List.mem_cons_of_mem _ List.mem_cons_self)))))); have q6 := neN (ho3 _ (List.mem_cons_of_mem _ (List.mem_cons_of_mem _ (List.mem_cons_of_mem _ (List.mem_cons_of_mem _ (List.mem_cons_of_mem _ (List.mem_cons_of_mem _ List.mem_cons_self))))))); have q7 := neN (ho3 _ (List.mem_cons_of_mem _ (List.mem_cons_of_mem _ (List.mem_cons_of_mem _ (List.mem_cons_of_mem _ (List.mem_cons_of_mem _ (List.mem_cons_of_mem _ (List.mem_cons_of_mem _ List.mem_cons_self)))))))); (try dsimp only at q4 q5 q6 q7); clear ho3
    obtain ⟨wn, hwn, hwl, hwb⟩ := wins_of (hdv.append hev).length hel hm5 hwv
    rotate_left
    rintro i7 v7 ys7 I7 oI7 C7 oC7 D7 m7 s7 E7 hs7 hi7 hv7 hC7 hx7 F' N'
    obtain ⟨t7, rfl, hi7'⟩ := at_int (hdv.append hev) (by simpa using hv7))
  k_with "mycall" => k_dflt (
    (refine' (d_order mm ww row rs hm5 hm8 hw9 hwL hrl hrb hrsp hrss) _ _ _ _ _ _ _ _ _ _ ?h0 ?h1 _ _ _ _ _ _ _ _ _ _ _ _ _ _ _ _ _ ?k1 ?k2 ?k3 ?k4 ?k5 ?kK ?kd ?ku ?_; (case k1 => k_asm); (case k2 => k_asm); (case k3 => k_asm); (case k4 => k_asm); (case k5 => k_asm); (case kK => exact rfl); (case kd => cb_room); (case ku => cb_units); (case h0 => assumption); (case h1 => assumption); (intro tO hO tkO FO NO)))
  k_with "mycall" => k_dflt (
    (refine' (d_sums ww mm rs row hw9 hwL hrl hm8 hrb hrsp) _ _ _ _ _ _ _ _ _ ?h0 ?h1 _ _ _ _ _ _ _ _ _ _ _ _ _ _ _ _ _ ?k1 ?k2 ?k3 ?k4 ?k5 ?kK ?kd ?ku ?_; (case k1 => k_asm); (case k2 => k_asm); (case k3 => k_asm); (case k4 => k_asm); (case k5 => k_asm); (case kK => exact rfl); (case kd => cb_room); (case ku => cb_units); (case h0 => assumption); (case h1 => assumption); (intro pD tD uD hD tkD FD ND lD; (try k_lt lD))))
  k_with "mycall" => k_dflt (
    (refine' (d_ones mm ww hm8 hw9 hwL) _ _ _ _ _ _ _ _ _ ?h0 ?h1 _ _ _ _ _ _ _ _ _ _ _ _ _ _ _ _ _ ?k1 ?k2 ?k3 ?k4 ?k5 ?kK ?kd ?ku ?_; (case k1 => k_asm); (case k2 => k_asm); (case k3 => k_asm); (case k4 => k_asm); (case k5 => k_asm); (case kK => exact rfl); (case kd => cb_room); (case ku => cb_units); (case h0 => assumption); (case h1 => assumption); (intro tE hE tkE FE NE; have hSl := slots_law hw9 (hrsl.trans hrl) hm8 (fun x hx => hrb x (hrsp.mem_iff.mp hx)))))
  k_with "store" => ((with_reducible show wpAny _ _ (storeName _ (Str.ofString "marks") _) _ _ _); rw [marks_cast hw9])
  k_with "store" => ((with_reducible show wpAny _ _ (storeName _ (Str.ofString "above") _) _ _ _); rw [above_cast hSl])
  k_with "boolop" => ((with_reducible show wpAny _ _ (eval (PySem.Expr.BoolOp _ [_, _] _) _) _ _ _); (fail_if_success (with_reducible show wpAny _ _ _ (JoinB _ _ _ _ _ _) _ _)); obtain ⟨eb, heb⟩ := ex_bool (Enough mm rs); k_dflt (refine' r_joinb eb ?jF ?jN ?_ ?_; (case jF => k_asm); (case jN => k_asm); rotate_left; intro h5 tk5 F' N'; rotate_left))
  k_with "mycall" => k_dflt (
    (refine' (d_league row (Nat.le_trans (Nat.le_of_eq hrl) hm8)) _ _ _ _ _ _ _ _ ?h0 ?h1 _ _ _ _ _ _ _ _ _ _ _ _ _ _ _ _ _ ?k1 ?k2 ?k3 ?k4 ?k5 ?kK ?kd ?ku ?_; (case k1 => k_asm); (case k2 => k_asm); (case k3 => k_asm); (case k4 => k_asm); (case k5 => k_asm); (case kK => exact rfl); (case kd => cb_room); (case ku => cb_units); (case h0 => kcj_m); (case h1 => exact hrow); (intro pB tlB kB hB tkB FB NB hdoB hlenB lB; (try k_lt lB); have hbeq := lg_says hrl hm5 hm8 hrb hrsp hrss hdoB heb; replace NB := And.intro trivial (nb_pick NB); replace FB := And.intro trivial FB; (repeat (rename News _ _ _ _ => nX; clear nX)); (repeat (rename Fr _ _ _ _ => nX; clear nX)); replace NB := NB.2; replace FB := FB.2)))
  k_with "nepairs" => (k_dflt (refine' r_ne_pairs (tl := tlB) ?zN ?za ?zb ?zt ?zu ?_; (case zN => k_asm); (case za => kcj_m); (case zb => kcj_m); (case zt => (intro y hy; repeat (first | exact List.mem_map_of_mem hy | apply List.mem_cons_of_mem))); (case zu => cb_units)); rw [hbeq])
  k_with "store" => ((with_reducible show wpAny _ _ (storeName _ (Str.ofString "tight") _) _ _ _); rw [tight_cast hSl])
  k_with "compsrc" => k_dflt (
    (rename IsRange _ _ _ _ _ _ _ _ => rgX)
    refine' r_lcip_range _ (fun i => ((row.map cI).getD ((List.range mm).getD i 0) 0, (((List.range mm).getD i 0 : Nat) : Int))) rfl ?cF ?cN rgX (small_one (by omega) (by omega) (by omega) (by omega)) (rangeSize_nat _ _) ?cz ?_ ?_
    (case cF => k_asm); (case cN => k_asm); (case cz => exact due_sz (by omega))
    rotate_left
    intro D8 tl8 nw8 h8 tk8 hv8 ht8 hk8 ho8 F' N'
    rotate_left
    rintro i7 v7 nw7 ys7 I7 oI7 C7 oC7 D7 m7 s7 E7 hs7 hi7 ⟨t7, rfl⟩ hk7 hC7 hx7 F' N'
    rw [tn_sub] at hi7
    have hcl := hk7 _ (List.mem_cons_of_mem _ (List.mem_cons_of_mem _ (List.mem_cons_of_mem _ (List.mem_cons_of_mem _ (List.mem_cons_of_mem _ List.mem_cons_self)))))
    have hcw := hk7 _ (List.mem_cons_of_mem _ (List.mem_cons_of_mem _ (List.mem_cons_of_mem _ List.mem_cons_self))))
  k_with "sorted" => k_dflt (
    refine' r_sorted_pairs (tl := tl8) ?sF ?sN ?sq ?st ?s1 ?s64 ?sn ?_
    (case sF => k_asm); (case sN => k_asm); (case sq => kcj_m)
    (case st => (intro y hy; repeat (first | exact ht8 y hy | apply List.mem_cons_of_mem)))
    (case s1 => exact od_len1 hv8 hm5)
    (case s64 => exact lg_len64 hv8 (by omega))
    (case sn => exact lg_nod hv8 od_n List.nodup_range)
    intro D9 tl9 c9 h9 hp9 hs9 F' N' l9; (try k_lt l9))
  k_with "srclp" => k_dflt (
    refine' r_lcpi tl9 (fun q => q.2) rfl ?pF ?pN ?pq ?pz ?pt ?_ ?_
    (case pF => k_asm); (case pN => k_asm); (case pq => kcj_m); (case pz => exact due_sz (by rw [hp9.length_eq]; exact Nat.le_of_lt (Nat.lt_trans (lg_len64 hv8 (by omega)) (by decide))))
    (case pt => (intro y hy; have hy' := hp9.mem_iff.mp hy; repeat (first | exact ht8 y hy' | apply List.mem_cons_of_mem)))
    rotate_left
    intro D6 ys6 h6 tk6 hys6 ho6 F' N'
    obtain ⟨od, he1, hop, hos⟩ := lg_sorted od_n hv8 hp9 hs9
    rw [he1] at hys6
    replace N' := nb_order N' hk8
    have hneO := ne_front N' hX (off_list (off_list (off_cell (Nat.ne_of_lt (Nat.lt_succ_self _)) (off_list (off_cell (Nat.ne_of_lt (Nat.lt_succ_of_lt (Nat.lt_succ_self _))) (off_cell (Nat.ne_of_lt (Nat.lt_succ_of_lt (Nat.lt_succ_of_lt (Nat.lt_succ_self _)))) (tts_off tlB)))))))
    rotate_left
    rintro y7 ys7 I7 oI7 C7 oC7 D7 m7 s7 E7 hs7 hy7 hC7 hx7 hx7' F' N')
  k_with "pyIter ref" => (
    (with_reducible show wpAny _ _ _ (fun it s₂ => LoopG _ _ _ _ _ (Stmt.Assign [PySem.Expr.Name (Str.ofString "out") _] _ _ :: _) _ _ it s₂) _ _)
    (rename News _ _ _ _ => lN8); replace lN8 := nb_k lN8; have hneF := ne_front lN8 hvk (off_cell (Nat.ne_of_gt (Nat.lt_succ_self _)) (off_list (off_list (off_cell (Nat.ne_of_lt (Nat.lt_succ_self _)) (off_cell (Nat.ne_of_lt (Nat.lt_succ_of_lt (Nat.lt_succ_self _))) (tts_off tlB)))))); have hE := heb.mp (by assumption)
    k_dflt (
    (rename Fr _ _ _ _ => lF'); (rename News _ _ _ _ => lN'); (rename IsRange _ _ _ _ _ _ _ _ => rgX)
    refine' lt_range (σ := Obj) (fun c => [(_, c)]) (_ :: _ :: _ :: _ :: _ :: tlB.map TT.e) (fun c => []) [Str.ofString "out"] (fun i c => ∃ v, c.data = .cell v) kc rfl rgX (small_one (by omega) (by omega) (by omega) (by omega)) (rangeSize_nat _ _) lF' (lN') ?lk ⟨_, hvk⟩ ?_ ?_
    (case lk => first | exact List.forall_mem_nil _ | kst_all)
    skip
    all_goals (try clear lF' lN')
    rotate_left
    rintro kd uK hK tkK hPK F' N'; (try dsimp only [List.cons_append, List.nil_append, kstB, lpM] at N' hPK F'); skip
    rotate_left
    rintro kd iK tK uK IK itK sK hsK hiK hneK hikK hPK F' N'; (try dsimp only [List.cons_append, List.nil_append, kstB, lpM] at N' hneK hPK F'); obtain ⟨vk2, hvk2⟩ := hPK; have n1 := neN (hneK _ List.mem_cons_self); (try dsimp only at n1); have hiK' : iK < mm := by omega))
  k_with "slice" => ((with_reducible show wpAny _ _ (subscriptTail (PySem.Expr.Name (Str.ofString "order") _) _ _ _) _ _ _); k_dflt (refine' r_upto ?gF ?gN ?gm ?gi ?g0 ?gz ?_ ?gs ?gt; (case gF => k_asm); (case gN => k_asm); (case gm => kcj_m); (case gi => exact hys6); (case g0 => omega); (case gz => exact due_sz (by rw [ints_len hys6, hop.length_eq, List.length_range]; omega)); (case gs => with_unfolding_all rfl); (case gt => kmk_pure)); intro D4 ws4 h4 F' N' l4 hI4; (try k_lt l4))
  k_with "srcpt" => k_dflt (
    refine' r_pt tlB (gOut ((od.map fun (n : Nat) => (n : Int)).take ((1 : Int) + (iK : Int)).toNat)) (fun _ => 1) rfl ?pF ?pN ?pq ?pz ?pt ?_ ?_ ?_
    (case pF => k_asm); (case pN => k_asm); (case pq => kcj_m); (case pz => exact due_sz (by omega))
    (case pt => (intro y hy; repeat (first | exact List.mem_map_of_mem hy | apply List.mem_cons_of_mem)))
    rotate_left
    rintro y7 ys7 I7 oI7 C7 oC7 D7 m7 s7 E7 hs7 hy7 hg7 hC7 hx7 hx7' F' N'
    rotate_left
    intro D8 ys8 h8 tk8 hys8 ho8 F' N'
    rotate_left
    rintro y7 ys7 I7 oI7 C7 oC7 D7 m7 s7 E7 hs7 hy7 hC7 hx7 hx7' F' N')
  k_with "eqnil" => (k_dflt (refine' r_eq_nil ?zN ?za ?zb ?zi ?zu ?_; (case zN => k_asm); (case za => kcj_m); (case zb => kcj_m); (case zi => exact hys8); (case zu => cb_units)); rw [tight_out hSl hrl hm5 hm8 hrb hrsp hrss hop hos hdoB hE hiK'])
  k_with "ltend" => k_dflt (
    (rename News _ _ _ _ => nE')
    refine' LtEnd.intro (σ := Obj) _ ?e1 nE' ?e3 ?e4 ?e5 ?e6 ?e7 ?e8
    (case e1 => k_asm); (case e6 => first | exact List.forall_mem_nil _ | kst_all); (case e3 => kcj_in); (case e4 => kcj_m)
    (case e5 => (intro p hp; rw [List.mem_singleton.mp hp]; exact ne_it_cell hikK (by assumption)))
    (case e7 => exact same_of (Str.ofString "out") (by kst_same) (.inr rfl))
    (case e8 => exact ⟨_, by assumption⟩))
  k_steps
  all_goals first
    | ((with_reducible show Ob (_ = _)); first | exact Ob.mk (by with_reducible rfl) | exact Ob.mk (en_no hSl heb (by assumption)) | exact Ob.mk (en_yes hSl heb hrsp (by assumption)) | exact Ob.mk (ob_o1 hi7) | exact Ob.mk (ob_o2 hi7) | exact Ob.mk (g_ff (by assumption) (by assumption)) | exact Ob.mk (g_tt (by assumption) (by assumption)) | exact Ob.mk (g_f (by assumption)))
    | ((with_reducible show Ob (_ ≠ _)); first | exact Ob.mk (by decide) | exact Ob.mk (by omega))
    | ((with_reducible show Ob (_ ≠ _ ∧ _ = _)); first | exact Ob.mk (py2 _))
    | ((with_reducible show Ob (Sm _ ∧ Sm _)); first | exact Ob.mk (ob_i hiA hm8) | exact Ob.mk (ob_nd hPA hiA hm8 hw9 hwL) | exact Ob.mk (ob_s hPA hiA hm8 hw9 hwL hrl hrsl hrb hrsp) | exact Ob.mk (ob_l hPA hiA hm8 hw9 hwL hrb hrsp) | exact Ob.mk (ob_k2 hiK' hm8 hwL) | exact Ob.mk (ob_abs _) | exact Ob.mk (ob_mw hm8 hwL) | exact Ob.mk (ob_m1 hm5 hm8))
    | ((with_reducible show Ob (0 ≤ _ ∧ _ ≤ 100000 ∧ Sm _)); first | exact Ob.mk (ob_w hPA hiA hm8 hw9 hwL hrb) | exact Ob.mk (ob_rm hrm2 hm8 hwL) | exact Ob.mk (ob_marks hm8 hw9 hwL) | exact Ob.mk (ob_w1 hwL) | exact Ob.mk (ob_lined hm8 hw9 hwL hrl hrb hrsp))
    | ((with_reducible show Ob (0 ≤ _ ∧ _ ≤ 100000)); first | exact Ob.mk (ob_ww hwL))
    | ((with_reducible show Ob (0 ≤ _ ∧ _ < _)); first | exact Ob.mk (ob_idx (by rw [hrsl, hrl]; exact hiA)) | exact Ob.mk (ob_idx (by rw [hrl]; exact hiA)) | exact Ob.mk (ob_idx (by rw [hrl]; exact hi7)) | exact Ob.mk ((last_ok hwl hm5 hwb).2) | exact Ob.mk (⟨by assumption, by assumption⟩))
    | ((with_reducible show Ob ((0 : Int) + _ < _)); first | exact Ob.mk (ob_63 hiA hm8) | exact Ob.mk (ob_63 hi7 hm8))
    | ((with_reducible show Ob (_ < _)); first | exact Ob.mk (ob_dv hdv hdl hm8))
    | ((with_reducible show Ob (_ ≤ _)); first | exact Ob.mk (ob_k1 hiK' hw9) | exact Ob.mk (ob_len hrow hrl hm8) | exact Ob.mk (ob_len2 hdv hev hel hm8))
    | ((with_reducible show _ = _); first | exact ob_o1 hi7 | exact ob_o2 hi7)
    | ((with_reducible show GoodW _ _ _ _ _ _ _); (rename (((_ : Bool) != _) = true) => hX); exact (bne_no hX).elim)
    | skip

  done)
end Mine
end
theorem PySem.Challenge.cw_we0001_02_holds : PySem.Challenge.rw_we0001_02.Holds :=
  Mine.w_law
