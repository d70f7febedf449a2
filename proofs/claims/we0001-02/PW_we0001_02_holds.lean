import PyProof.Rows.All
import Wide.All
import OpenK.AllK
import Wide.FinOn
import PySem.Challenge.RW_we0001_02
set_option Elab.async false
section
open PySem PySem.W PyProof.Rows
namespace Mine
open_top hd for PySem.Challenge.rw_we0001_02
end Mine
end
section
open PySem PySem.W PyProof.Rows
namespace Mine
noncomputable def Ob (P : Prop) : Prop := P
theorem Ob.mk {P : Prop} (h : P) : Ob P := h
theorem Ob.out {P : Prop} (h : Ob P) : P := h
noncomputable def HB : Nat := 100000
theorem HB_eq : HB = 100000 := rfl
noncomputable def Sm (x : Int) : Prop := x.natAbs < 2 ^ HB
theorem sm_of_lt {x : Int} {n : Nat} (h : x.natAbs < 2 ^ n) (hn : n ≤ 100000) : Sm x :=
  Nat.lt_of_lt_of_le h (Nat.pow_le_pow_right (by decide) hn)
theorem pow2_pos (n : Nat) : (0 : Int) < 2 ^ n := pow_pos_of (by decide) n
theorem cast_pow2 (n : Nat) : ((2 ^ n : Nat) : Int) = (2 : Int) ^ n := kbt_cast n
theorem sm_of_int {x : Int} {n : Nat} (h0 : -(2 ^ n) < x) (h1 : x < 2 ^ n) (hn : n ≤ 100000) : Sm x := by
  refine sm_of_lt (n := n) ?_ hn
  have h := cast_pow2 n
  lia
theorem sm_nn {x : Int} {n : Nat} (h0 : 0 ≤ x) (h1 : x < 2 ^ n) (hn : n ≤ 100000) : Sm x :=
  sm_of_int (by have := pow2_pos n; lia) h1 hn
theorem bits_le {x : Int} {n : Nat} (h : x.natAbs < 2 ^ n) : Builtin.Int.intBits x ≤ n := by
  unfold Builtin.Int.intBits
  by_cases hx : (x == 0) = true
  · rw [if_pos hx]; exact Nat.zero_le _
  · rw [if_neg hx]
    have hne : x.natAbs ≠ 0 := by
      intro h0
      apply hx
      have : x = 0 := Int.natAbs_eq_zero.mp h0
      simp [this]
    have := (Nat.log2_lt hne).mpr h
    lia
theorem sm_bits {x : Int} (h : Sm x) : Builtin.Int.intBits x ≤ 100000 := HB_eq ▸ bits_le (n := HB) h

section
variable {prog : Program} {w : World} {A : Around} {E : Value → Shared → Prop} {s : Shared} {a b n : Int} {t u : Tok} {Q : Value → Shared → Prop}
theorem r_lsh (h : Q (.int (a * 2 ^ n.toNat) s.toks) { s with toks := s.toks + 1 }) (ho : Ob (0 ≤ n ∧ n ≤ 100000 ∧ Sm a)) :
    wpAny (model prog w) A (binaryOp .LShift (.int a t) (.int n u)) Q E s := by
  obtain ⟨h0, h1, h2⟩ := ho
  have := sm_bits h2
  exact lshift_int h0 (by lia) h
theorem r_ilsh (h : Q (.int (a * 2 ^ n.toNat) s.toks) { s with toks := s.toks + 1 }) (ho : Ob (0 ≤ n ∧ n ≤ 100000 ∧ Sm a)) :
    wpAny (model prog w) A (inplaceOp .LShift (.int a t) (.int n u)) Q E s := by
  obtain ⟨h0, h1, h2⟩ := ho
  have := sm_bits h2
  exact ilshift_int h0 (by lia) h
theorem r_mul (h : Q (.int (a * b) s.toks) { s with toks := s.toks + 1 }) (ho : Ob (Sm a ∧ Sm b)) :
    wpAny (model prog w) A (binaryOp .Mult (.int a t) (.int b u)) Q E s := by
  have h1 := sm_bits ho.1
  have h2 := sm_bits ho.2
  exact mul_int h (IntMulOk.of_bits (by lia) (by lia))
theorem r_fdiv (h : Q (.int (a.fdiv b) s.toks) { s with toks := s.toks + 1 }) (ho : Ob (b ≠ 0 ∧ Builtin.divisionGoesByPylong a b = false)) :
    wpAny (model prog w) A (binaryOp .FloorDiv (.int a t) (.int b u)) Q E s := floordiv_int ho.1 h (.inl ho.2)
theorem r_mod (h : Q (.int (a.fmod b) s.toks) { s with toks := s.toks + 1 }) (ho : Ob (b ≠ 0)) :
    wpAny (model prog w) A (binaryOp .Mod (.int a t) (.int b u)) Q E s := mod_int' ho h
theorem r_rsh (h : Q (.int (a.fdiv (2 ^ n.toNat)) s.toks) { s with toks := s.toks + 1 }) (ho : Ob (0 ≤ n)) :
    wpAny (model prog w) A (binaryOp .RShift (.int a t) (.int n u)) Q E s := rshift_int ho h
theorem r_irsh (h : Q (.int (a.fdiv (2 ^ n.toNat)) s.toks) { s with toks := s.toks + 1 }) (ho : Ob (0 ≤ n)) :
    wpAny (model prog w) A (inplaceOp .RShift (.int a t) (.int n u)) Q E s := irshift_int ho h
theorem r_divmod {h₀ : Heap} {L : Addr} {m : Str → Option Value} {news : List (Addr × Obj)} (F : Fr h₀ L s.heap m) (N : News h₀ L s.heap news)
    (h : ∀ p h', Fr h₀ L h' m → News h₀ L h' ((p, { cls := .type "tuple", data := .seq #[.int (a.fdiv b) s.toks, .int (a.fmod b) (s.toks + 1)] }) :: news) → (∀ q ∈ news, q.1 < p) →
      Q (.ref p) { s with toks := s.toks + 1 + 1, heap := h' })
    (ho : Ob (b ≠ 0 ∧ Builtin.divisionGoesByPylong a b = false)) :
    wpAny (model prog w) A (call (.builtin "divmod") [.int a t, .int b u]) Q E s :=
  divmod_N F N ho.1 (fun h' F' N' => h _ h' F' N' fun q hq => Heap.lt_size (N q hq).1) (.inl ho.2)
end

theorem no_pylong {a b : Int} {k : Nat} (ha : a.natAbs < 2 ^ (k + 4400)) (hb : 2 ^ k ≤ b.natAbs) : Builtin.divisionGoesByPylong a b = false := by
  have hb0 : b.natAbs ≠ 0 := by
    intro h; rw [h] at hb; have := Nat.two_pow_pos k; lia
  have e2 : k ≤ b.natAbs.log2 := (Nat.le_log2 hb0).mpr hb
  have hbn : (b == 0) = false := by
    cases h : b == 0 with
    | false => rfl
    | true => exact absurd (Int.natAbs_eq_zero.mpr (eq_of_beq h)) hb0
  unfold Builtin.divisionGoesByPylong
  dsimp only
  by_cases ha0 : (a == 0) = true
  · simp [ha0, hbn]
  · have ha0' : a.natAbs ≠ 0 := by
      intro h; apply ha0; rw [Int.natAbs_eq_zero.mp h]; rfl
    have e1 : a.natAbs.log2 < k + 4400 := (Nat.log2_lt ha0').mpr ha
    have ha0f : (a == 0) = false := by simpa using ha0
    simp only [ha0f, hbn, Bool.false_eq_true, if_false, Bool.and_eq_false_iff, decide_eq_false_iff_not]
    right
    lia

theorem fdiv_pos {a b : Int} (hb : 0 ≤ b) : a.fdiv b = a / b := Int.fdiv_eq_ediv_of_nonneg a hb
theorem fmod_pos {a b : Int} (hb : 0 ≤ b) : a.fmod b = a % b := Int.fmod_eq_emod_of_nonneg a hb

theorem and_shift (x y k : Nat) (hy : y < 2 ^ k) : (2 ^ k * x) &&& y = 0 := by
  have h1 := nat_or_add_and (2 ^ k * x) y
  have h2 := Nat.two_pow_add_eq_or_of_lt hy x
  lia
theorem bitOr_shift {x y : Int} {k : Nat} (hx : 0 ≤ x) (hy : 0 ≤ y) (hy' : y < 2 ^ k) : Builtin.bitOr (x * 2 ^ k) y = x * 2 ^ k + y := by
  have hp := pow2_pos k
  have hx' : 0 ≤ x * 2 ^ k := Int.mul_nonneg hx (Int.le_of_lt hp)
  rw [bitOr_and, bitAnd_pp hx' hy]
  have e : (x * 2 ^ k).toNat = 2 ^ k * x.toNat := by
    have h1 : ((2 ^ k * x.toNat : Nat) : Int) = x * 2 ^ k := by
      rw [Int.natCast_mul, cast_pow2, Int.toNat_of_nonneg hx, Int.mul_comm]
    lia
  have hy2 : y.toNat < 2 ^ k := by have := cast_pow2 k; lia
  rw [e, and_shift _ _ _ hy2]
  simp

structure D3pre (a12 a3 b b1 b2 n : Int) : Prop where
  n1 : 1 ≤ n
  n2 : n ≤ 40000
  hb : b = b1 * 2 ^ n.toNat + b2
  b20 : 0 ≤ b2
  b2l : b2 < 2 ^ n.toNat
  b1l : b1 < 2 ^ n.toNat
  b1g : 2 ^ n.toNat ≤ 2 * b1
  a0 : 0 ≤ a12
  al : a12 < b
  a30 : 0 ≤ a3
  a3l : a3 < 2 ^ n.toNat
structure D2pre (a b n : Int) : Prop where
  n1 : 1 ≤ n
  n2 : n ≤ 40000
  bl : b < 2 ^ n.toNat
  bg : 2 ^ n.toNat ≤ 2 * b
  a0 : 0 ≤ a
  al : a < 2 ^ n.toNat * b

section
variable {a12 a3 b b1 b2 n : Int}
theorem D3pre.b1p (h : D3pre a12 a3 b b1 b2 n) : 0 < b1 := by
  have := h.b1g; have := pow2_pos n.toNat; lia
theorem D3pre.bp (h : D3pre a12 a3 b b1 b2 n) : 0 < b := by
  have := h.a0; have := h.al; lia
theorem D3pre.d2 (h : D3pre a12 a3 b b1 b2 n) (hc : a12.fdiv (2 ^ n.toNat) ≠ b1) : D2pre a12 b1 n := by
  refine ⟨h.n1, h.n2, h.b1l, h.b1g, h.a0, ?_⟩
  have hp := pow2_pos n.toNat
  rw [fdiv_pos (Int.le_of_lt hp)] at hc
  have h1 : a12 / 2 ^ n.toNat ≤ b1 := by
    have h2 : a12 < (b1 + 1) * 2 ^ n.toNat := by
      have := h.hb; have := h.al; have := h.b2l
      rw [Int.add_mul]; lia
    have := (Int.ediv_lt_iff_lt_mul hp).mpr h2
    lia
  have h3 : a12 / 2 ^ n.toNat < b1 := by lia
  have h4 := (Int.ediv_lt_iff_lt_mul hp).mp h3
  rw [Int.mul_comm]; exact h4
theorem D3pre.start {q r : Int} (h : D3pre a12 a3 b b1 b2 n) (hq : q * b1 + r = a12) (hr : 0 ≤ r) (hl : q * b + (r * 2 ^ n.toNat + a3 - q * b2) < q * b + b) :
    q * b + (Builtin.bitOr (r * 2 ^ n.toNat) a3 - q * b2) = a12 * 2 ^ n.toNat + a3 ∧ Builtin.bitOr (r * 2 ^ n.toNat) a3 - q * b2 < b := by
  rw [bitOr_shift hr h.a30 h.a3l]
  refine ⟨?_, by lia⟩
  rw [h.hb, ← hq]
  grind
theorem D3pre.start1 (h : D3pre a12 a3 b b1 b2 n) (hc : a12.fdiv (2 ^ n.toNat) = b1) :
    (1 * 2 ^ n.toNat - 1) * b + (Builtin.bitOr ((a12 - b1 * 2 ^ n.toNat + b1) * 2 ^ n.toNat) a3 - (1 * 2 ^ n.toNat - 1) * b2) = a12 * 2 ^ n.toNat + a3 ∧ Builtin.bitOr ((a12 - b1 * 2 ^ n.toNat + b1) * 2 ^ n.toNat) a3 - (1 * 2 ^ n.toNat - 1) * b2 < b := by
  have hp := pow2_pos n.toNat
  rw [fdiv_pos (Int.le_of_lt hp)] at hc
  have hm := Int.emod_nonneg a12 (show (2 : Int) ^ n.toNat ≠ 0 by lia)
  have hd := Int.emod_def a12 (2 ^ n.toNat)
  rw [hc] at hd
  have hb1 := h.b1p
  refine h.start (q := 1 * 2 ^ n.toNat - 1) (r := a12 - b1 * 2 ^ n.toNat + b1) (by grind) (by rw [Int.mul_comm] at hd; lia) ?_
  have hal := h.al
  have h3 := h.a3l
  have key : (1 * 2 ^ n.toNat - 1) * b + ((a12 - b1 * 2 ^ n.toNat + b1) * 2 ^ n.toNat + a3 - (1 * 2 ^ n.toNat - 1) * b2) = a12 * 2 ^ n.toNat + a3 := by
    rw [h.hb]; grind
  rw [key]
  have h4 : a12 * 2 ^ n.toNat + a3 < (a12 + 1) * 2 ^ n.toNat := by rw [Int.add_mul]; lia
  have h5 : (a12 + 1) * 2 ^ n.toNat ≤ b * 2 ^ n.toNat := Int.mul_le_mul_of_nonneg_right (by lia) (Int.le_of_lt hp)
  have h6 : (1 * 2 ^ n.toNat - 1) * b + b = b * 2 ^ n.toNat := by grind
  lia
theorem D3pre.start2 (h : D3pre a12 a3 b b1 b2 n) :
    (a12 / b1) * b + (Builtin.bitOr ((a12 % b1) * 2 ^ n.toNat) a3 - (a12 / b1) * b2) = a12 * 2 ^ n.toNat + a3 ∧ Builtin.bitOr ((a12 % b1) * 2 ^ n.toNat) a3 - (a12 / b1) * b2 < b := by
  have hp := pow2_pos n.toNat
  have hb1 := h.b1p
  have hm := Int.emod_nonneg a12 (show b1 ≠ 0 by lia)
  have hl := Int.emod_lt_of_pos a12 hb1
  have hd := Int.emod_def a12 b1
  refine h.start (q := a12 / b1) (r := a12 % b1) (by rw [Int.mul_comm]; lia) hm ?_
  have hq : 0 ≤ a12 / b1 := Int.ediv_nonneg h.a0 (Int.le_of_lt hb1)
  have h1 : 0 ≤ a12 / b1 * b2 := Int.mul_nonneg hq h.b20
  have h2 : (a12 % b1 + 1) * 2 ^ n.toNat ≤ b1 * 2 ^ n.toNat := Int.mul_le_mul_of_nonneg_right (by lia) (Int.le_of_lt hp)
  have h3 := h.a3l
  have h4 := h.b20
  have h5 := h.hb
  rw [Int.add_mul] at h2
  lia
theorem d3_turn {A q r : Int} (h1 : q * b + r = A) (h2 : r < b) (hr : r < 0) : (q - 1) * b + (r + b) = A ∧ r + b < b :=
  ⟨by rw [← h1, Int.sub_mul]; lia, by lia⟩
theorem D3pre.done {A q r : Int} (h : D3pre a12 a3 b b1 b2 n) (hP : q * b + r = A ∧ r < b) (hr : ¬ r < 0) : A / b = q ∧ A % b = r :=
  kbt_unique h.bp (by rw [← hP.1, Int.mul_comm b]; lia) (by lia) hP.2
theorem pow2_le {i j : Nat} (h : i ≤ j) : (2 : Int) ^ i ≤ 2 ^ j := by
  have h1 := cast_pow2 i; have h2 := cast_pow2 j
  have := Nat.pow_le_pow_right (n := 2) (by decide) h
  lia
theorem pow2_add (i j : Nat) : (2 : Int) ^ (i + j) = 2 ^ i * 2 ^ j := Int.pow_add 2 i j
theorem D3pre.s_b1 (h : D3pre a12 a3 b b1 b2 n) : Sm b1 := by
  have := h.n2; have := h.b1p
  exact sm_nn (n := n.toNat) (by lia) h.b1l (by lia)
theorem D3pre.s_b2 (h : D3pre a12 a3 b b1 b2 n) : Sm b2 := by
  have := h.n2
  exact sm_nn (n := n.toNat) h.b20 h.b2l (by lia)
theorem D3pre.s_q1 (h : D3pre a12 a3 b b1 b2 n) : Sm (1 * 2 ^ n.toNat - 1) := by
  have := h.n2
  have := pow2_pos n.toNat
  exact sm_nn (n := n.toNat) (by lia) (by lia) (by lia)
theorem D3pre.s_r1 (h : D3pre a12 a3 b b1 b2 n) (hc : a12.fdiv (2 ^ n.toNat) = b1) : Sm (a12 - b1 * 2 ^ n.toNat + b1) := by
  have hn := h.n2
  have hp := pow2_pos n.toNat
  rw [fdiv_pos (Int.le_of_lt hp)] at hc
  have hm := Int.emod_nonneg a12 (show (2 : Int) ^ n.toNat ≠ 0 by lia)
  have hl := Int.emod_lt_of_pos a12 hp
  have hd := Int.emod_def a12 (2 ^ n.toNat)
  rw [hc, Int.mul_comm] at hd
  have h1 := h.b1l
  have h2 := h.b1p
  have h3 : (2 : Int) ^ (n.toNat + 1) = 2 ^ n.toNat * 2 := Int.pow_succ 2 n.toNat
  exact sm_nn (n := n.toNat + 1) (by lia) (by lia) (by lia)
theorem D3pre.s_q2 (h : D3pre a12 a3 b b1 b2 n) (hc : a12.fdiv (2 ^ n.toNat) ≠ b1) : Sm (a12 / b1) := by
  have hn := h.n2
  have h1 := (h.d2 hc).al
  have hb := h.b1p
  have h2 := (Int.ediv_lt_iff_lt_mul hb).mpr h1
  exact sm_nn (n := n.toNat) (Int.ediv_nonneg h.a0 (Int.le_of_lt hb)) h2 (by lia)
theorem D3pre.s_r2 (h : D3pre a12 a3 b b1 b2 n) : Sm (a12 % b1) := by
  have hn := h.n2
  have hb := h.b1p
  have h1 := Int.emod_nonneg a12 (show b1 ≠ 0 by lia)
  have h2 := Int.emod_lt_of_pos a12 hb
  have h3 := h.b1l
  exact sm_nn (n := n.toNat) h1 (by lia) (by lia)
theorem sm_one : Sm 1 := sm_nn (n := 1) (by decide) (by decide) (by decide)
end
end Mine
end
section
open PySem PySem.W PyProof.Rows
namespace Mine

theorem mask_one (x : Int) (k : Nat) : Builtin.bitAnd x (1 * 2 ^ k - 1) = x % 2 ^ k := by rw [Int.one_mul, kbt_mask]
theorem bit_one (x : Int) : Builtin.bitAnd x 1 = x % 2 := kbt_mask x 1
theorem toNat_one : (2 : Int) ^ Int.toNat 1 = 2 := rfl
section
variable {A B N M : Int}
theorem half_even (he : N % 2 = 0) : N = 2 * (N.fdiv (2 ^ Int.toNat 1)) := by
  rw [toNat_one, fdiv_pos (by decide)]; lia
theorem D2pre.bp (H : D2pre A B N) : 0 < B := by
  have := H.bg; have := pow2_pos N.toNat; lia
theorem D2pre.sa (H : D2pre A B N) : A < 2 ^ (N.toNat + N.toNat) := by
  have h1 := H.al
  have h2 : 2 ^ N.toNat * B ≤ 2 ^ N.toNat * 2 ^ N.toNat := Int.mul_le_mul_of_nonneg_left (Int.le_of_lt H.bl) (Int.le_of_lt (pow2_pos _))
  rw [pow2_add]; lia
theorem D2pre.s_a (H : D2pre A B N) : Sm A := by
  have := H.n2
  exact sm_nn H.a0 H.sa (by lia)
theorem D2pre.s_b (H : D2pre A B N) : Sm B := by
  have := H.n2; have := H.bp
  exact sm_nn (n := N.toNat) (by lia) H.bl (by lia)
theorem D2pre.nopy (H : D2pre A B N) (hc : (Builtin.Int.intBits A : Int) - N ≤ 4000) : B ≠ 0 ∧ Builtin.divisionGoesByPylong A B = false := by
  have hb := H.bp
  refine ⟨by lia, no_pylong (k := N.toNat - 1) ?_ ?_⟩
  · have h1 : A.natAbs < 2 ^ (Builtin.Int.intBits A) := by
      unfold Builtin.Int.intBits
      by_cases h0 : (A == 0) = true
      · have : A = 0 := eq_of_beq h0
        subst this; decide
      · rw [if_neg h0]
        exact Nat.lt_log2_self
    have hn := H.n1
    exact Nat.lt_of_lt_of_le h1 (Nat.pow_le_pow_right (by decide) (by lia))
  · have h1 := H.bg
    have hn := H.n1
    have h2 : N.toNat = (N.toNat - 1) + 1 := by lia
    have h3 : (2 : Int) ^ N.toNat = 2 ^ (N.toNat - 1) * 2 := by
      rw [h2, Int.pow_succ]; simp
    have h4 := cast_pow2 (N.toNat - 1)
    lia
theorem D2pre.deep (H : D2pre A B N) (hc : ¬ (Builtin.Int.intBits A : Int) - N ≤ 4000) : 4000 < N := by
  have h1 : A.natAbs < 2 ^ (N.toNat + N.toNat) := by
    have := H.sa; have := H.a0; have := cast_pow2 (N.toNat + N.toNat); lia
  have h2 := bits_le h1
  have := H.n1
  lia
theorem pow_half (he : N % 2 = 0) (h1 : 1 ≤ N) : (2 : Int) ^ N.toNat = 2 ^ (N.fdiv (2 ^ Int.toNat 1)).toNat * 2 ^ (N.fdiv (2 ^ Int.toNat 1)).toNat := by
  have h := half_even he
  have hp : 0 ≤ (N.fdiv (2 ^ Int.toNat 1)) := by lia
  rw [← pow2_add]
  congr 1
  lia
theorem D2pre.x1 (H : D2pre A B N) (he : N % 2 = 0) : ((A.fdiv (2 ^ N.toNat)) * 2 ^ (N.fdiv (2 ^ Int.toNat 1)).toNat + (Builtin.bitAnd (A.fdiv (2 ^ (N.fdiv (2 ^ Int.toNat 1)).toNat)) (1 * 2 ^ (N.fdiv (2 ^ Int.toNat 1)).toNat - 1))) = A / (2 ^ (N.fdiv (2 ^ Int.toNat 1)).toNat) := by
  have hp := pow2_pos ((N.fdiv (2 ^ Int.toNat 1))).toNat
  rw [mask_one, pow_half he H.n1, fdiv_pos (Int.le_of_lt (Int.mul_pos hp hp)), fdiv_pos (Int.le_of_lt hp)]
  have h1 : A / (2 ^ (N.fdiv (2 ^ Int.toNat 1)).toNat * 2 ^ (N.fdiv (2 ^ Int.toNat 1)).toNat) = A / (2 ^ (N.fdiv (2 ^ Int.toNat 1)).toNat) / (2 ^ (N.fdiv (2 ^ Int.toNat 1)).toNat) := (Int.ediv_ediv_of_nonneg (Int.le_of_lt hp)).symm
  rw [h1]
  have h2 := Int.emod_def (A / (2 ^ (N.fdiv (2 ^ Int.toNat 1)).toNat)) (2 ^ (N.fdiv (2 ^ Int.toNat 1)).toNat)
  rw [h2, Int.mul_comm]
  lia
theorem D2pre.pre1 (H : D2pre A B N) (he : N % 2 = 0) (hM : N ≤ 2 * M) : D3pre (A.fdiv (2 ^ N.toNat)) (Builtin.bitAnd (A.fdiv (2 ^ (N.fdiv (2 ^ Int.toNat 1)).toNat)) (1 * 2 ^ (N.fdiv (2 ^ Int.toNat 1)).toNat - 1)) B (B.fdiv (2 ^ (N.fdiv (2 ^ Int.toNat 1)).toNat)) (Builtin.bitAnd B (1 * 2 ^ (N.fdiv (2 ^ Int.toNat 1)).toNat - 1)) (N.fdiv (2 ^ Int.toNat 1)) ∧ (N.fdiv (2 ^ Int.toNat 1)) ≤ M := by
  have h := half_even he
  have n1 := H.n1
  have hp := pow2_pos ((N.fdiv (2 ^ Int.toNat 1))).toNat
  have hh := pow_half he H.n1
  have hbl := H.bl
  have hbg := H.bg
  have hal := H.al
  have n2 := H.n2
  rw [mask_one, mask_one]
  have e1 : (B.fdiv (2 ^ (N.fdiv (2 ^ Int.toNat 1)).toNat)) = B / (2 ^ (N.fdiv (2 ^ Int.toNat 1)).toNat) := fdiv_pos (Int.le_of_lt hp)
  have e2 : (A.fdiv (2 ^ N.toNat)) = A / (2 ^ N.toNat) := fdiv_pos (Int.le_of_lt (pow2_pos _))
  rw [e1, e2, fdiv_pos (a := A) (Int.le_of_lt hp)]
  have hd := Int.emod_def B (2 ^ (N.fdiv (2 ^ Int.toNat 1)).toNat)
  have hm0 := Int.emod_nonneg B (show (2 ^ (N.fdiv (2 ^ Int.toNat 1)).toNat : Int) ≠ 0 by lia)
  have hm1 := Int.emod_lt_of_pos B hp
  refine ⟨⟨by lia, by lia, ?_, hm0, hm1, ?_, ?_, ?_, ?_, ?_, ?_⟩, by lia⟩
  · rw [Int.mul_comm]; lia
  · exact (Int.ediv_lt_iff_lt_mul hp).mpr (by rw [← hh]; exact hbl)
  · have h3 : ((N.fdiv (2 ^ Int.toNat 1))).toNat = (((N.fdiv (2 ^ Int.toNat 1))).toNat - 1) + 1 := by lia
    have h4 : (2 ^ (N.fdiv (2 ^ Int.toNat 1)).toNat : Int) = 2 ^ (((N.fdiv (2 ^ Int.toNat 1))).toNat - 1) * 2 := by
      rw [h3, Int.pow_succ]; simp
    have h5 : (2 : Int) ^ (((N.fdiv (2 ^ Int.toNat 1))).toNat - 1) ≤ B / (2 ^ (N.fdiv (2 ^ Int.toNat 1)).toNat) := by
      refine (Int.le_ediv_iff_mul_le hp).mpr ?_
      rw [hh] at hbg
      have h6 : (2 ^ (N.fdiv (2 ^ Int.toNat 1)).toNat : Int) * 2 ^ (N.fdiv (2 ^ Int.toNat 1)).toNat = 2 * (2 ^ (((N.fdiv (2 ^ Int.toNat 1))).toNat - 1) * 2 ^ (N.fdiv (2 ^ Int.toNat 1)).toNat) := by
        rw [h4]; grind
      lia
    lia
  · exact Int.ediv_nonneg H.a0 (Int.le_of_lt (pow2_pos _))
  · exact (Int.ediv_lt_iff_lt_mul (pow2_pos _)).mpr (by rw [Int.mul_comm]; exact hal)
  · exact Int.emod_nonneg _ (by lia)
  · exact Int.emod_lt_of_pos _ hp
theorem D2pre.pre2 (H : D2pre A B N) (he : N % 2 = 0) (hM : N ≤ 2 * M) : D3pre (((A.fdiv (2 ^ N.toNat)) * 2 ^ (N.fdiv (2 ^ Int.toNat 1)).toNat + (Builtin.bitAnd (A.fdiv (2 ^ (N.fdiv (2 ^ Int.toNat 1)).toNat)) (1 * 2 ^ (N.fdiv (2 ^ Int.toNat 1)).toNat - 1))) % B) (Builtin.bitAnd A (1 * 2 ^ (N.fdiv (2 ^ Int.toNat 1)).toNat - 1)) B (B.fdiv (2 ^ (N.fdiv (2 ^ Int.toNat 1)).toNat)) (Builtin.bitAnd B (1 * 2 ^ (N.fdiv (2 ^ Int.toNat 1)).toNat - 1)) (N.fdiv (2 ^ Int.toNat 1)) ∧ (N.fdiv (2 ^ Int.toNat 1)) ≤ M := by
  obtain ⟨h1, h2⟩ := H.pre1 he hM
  have hp := pow2_pos ((N.fdiv (2 ^ Int.toNat 1))).toNat
  have hb := H.bp
  refine ⟨⟨h1.n1, h1.n2, h1.hb, h1.b20, h1.b2l, h1.b1l, h1.b1g, Int.emod_nonneg _ (by lia), Int.emod_lt_of_pos _ hb, ?_, ?_⟩, h2⟩
  · rw [mask_one]; exact Int.emod_nonneg _ (by lia)
  · rw [mask_one]; exact Int.emod_lt_of_pos _ hp
theorem D2pre.s_q (H : D2pre A B N) (he : N % 2 = 0) : Sm (((A.fdiv (2 ^ N.toNat)) * 2 ^ (N.fdiv (2 ^ Int.toNat 1)).toNat + (Builtin.bitAnd (A.fdiv (2 ^ (N.fdiv (2 ^ Int.toNat 1)).toNat)) (1 * 2 ^ (N.fdiv (2 ^ Int.toNat 1)).toNat - 1))) / B) := by
  rw [H.x1 he]
  have hp := pow2_pos ((N.fdiv (2 ^ Int.toNat 1))).toNat
  have hb := H.bp
  have n2 := H.n2
  have h1 : A / (2 ^ (N.fdiv (2 ^ Int.toNat 1)).toNat) ≤ A := Int.ediv_le_self _ H.a0
  have h0 : 0 ≤ A / (2 ^ (N.fdiv (2 ^ Int.toNat 1)).toNat) := Int.ediv_nonneg H.a0 (Int.le_of_lt hp)
  have h2 : A / (2 ^ (N.fdiv (2 ^ Int.toNat 1)).toNat) / B ≤ A / (2 ^ (N.fdiv (2 ^ Int.toNat 1)).toNat) := Int.ediv_le_self _ h0
  have h3 := H.sa
  exact sm_nn (Int.ediv_nonneg h0 (Int.le_of_lt hb)) (by lia) (show N.toNat + N.toNat ≤ 100000 by lia)
theorem D2pre.fin (H : D2pre A B N) (he : N % 2 = 0) : Builtin.bitOr ((((A.fdiv (2 ^ N.toNat)) * 2 ^ (N.fdiv (2 ^ Int.toNat 1)).toNat + (Builtin.bitAnd (A.fdiv (2 ^ (N.fdiv (2 ^ Int.toNat 1)).toNat)) (1 * 2 ^ (N.fdiv (2 ^ Int.toNat 1)).toNat - 1))) / B) * 2 ^ (N.fdiv (2 ^ Int.toNat 1)).toNat) (((((A.fdiv (2 ^ N.toNat)) * 2 ^ (N.fdiv (2 ^ Int.toNat 1)).toNat + (Builtin.bitAnd (A.fdiv (2 ^ (N.fdiv (2 ^ Int.toNat 1)).toNat)) (1 * 2 ^ (N.fdiv (2 ^ Int.toNat 1)).toNat - 1))) % B) * 2 ^ (N.fdiv (2 ^ Int.toNat 1)).toNat + (Builtin.bitAnd A (1 * 2 ^ (N.fdiv (2 ^ Int.toNat 1)).toNat - 1))) / B) = A / B ∧ (((((A.fdiv (2 ^ N.toNat)) * 2 ^ (N.fdiv (2 ^ Int.toNat 1)).toNat + (Builtin.bitAnd (A.fdiv (2 ^ (N.fdiv (2 ^ Int.toNat 1)).toNat)) (1 * 2 ^ (N.fdiv (2 ^ Int.toNat 1)).toNat - 1))) % B) * 2 ^ (N.fdiv (2 ^ Int.toNat 1)).toNat + (Builtin.bitAnd A (1 * 2 ^ (N.fdiv (2 ^ Int.toNat 1)).toNat - 1))) % B) = A % B := by
  have hp := pow2_pos ((N.fdiv (2 ^ Int.toNat 1))).toNat
  have hb := H.bp
  rw [H.x1 he, mask_one]
  have h0 : 0 ≤ A / (2 ^ (N.fdiv (2 ^ Int.toNat 1)).toNat) := Int.ediv_nonneg H.a0 (Int.le_of_lt hp)
  have hd := Int.emod_def A (2 ^ (N.fdiv (2 ^ Int.toNat 1)).toNat)
  have hm0 := Int.emod_nonneg A (show (2 ^ (N.fdiv (2 ^ Int.toNat 1)).toNat : Int) ≠ 0 by lia)
  have hm1 := Int.emod_lt_of_pos A hp
  have hr0 := Int.emod_nonneg (A / (2 ^ (N.fdiv (2 ^ Int.toNat 1)).toNat)) (show B ≠ 0 by lia)
  have hr1 := Int.emod_lt_of_pos (A / (2 ^ (N.fdiv (2 ^ Int.toNat 1)).toNat)) hb
  have hrd := Int.emod_def (A / (2 ^ (N.fdiv (2 ^ Int.toNat 1)).toNat)) B
  have hx0 : 0 ≤ A / (2 ^ (N.fdiv (2 ^ Int.toNat 1)).toNat) % B * 2 ^ (N.fdiv (2 ^ Int.toNat 1)).toNat + A % (2 ^ (N.fdiv (2 ^ Int.toNat 1)).toNat) := by
    have := Int.mul_nonneg hr0 (Int.le_of_lt hp); lia
  have hxl : A / (2 ^ (N.fdiv (2 ^ Int.toNat 1)).toNat) % B * 2 ^ (N.fdiv (2 ^ Int.toNat 1)).toNat + A % (2 ^ (N.fdiv (2 ^ Int.toNat 1)).toNat) < B * 2 ^ (N.fdiv (2 ^ Int.toNat 1)).toNat := by
    have : (A / (2 ^ (N.fdiv (2 ^ Int.toNat 1)).toNat) % B + 1) * 2 ^ (N.fdiv (2 ^ Int.toNat 1)).toNat ≤ B * 2 ^ (N.fdiv (2 ^ Int.toNat 1)).toNat := Int.mul_le_mul_of_nonneg_right (by lia) (Int.le_of_lt hp)
    rw [Int.add_mul] at this; lia
  have hq2 : (A / (2 ^ (N.fdiv (2 ^ Int.toNat 1)).toNat) % B * 2 ^ (N.fdiv (2 ^ Int.toNat 1)).toNat + A % (2 ^ (N.fdiv (2 ^ Int.toNat 1)).toNat)) / B < 2 ^ (N.fdiv (2 ^ Int.toNat 1)).toNat := (Int.ediv_lt_iff_lt_mul hb).mpr (by rw [Int.mul_comm (2 ^ (N.fdiv (2 ^ Int.toNat 1)).toNat) B]; exact hxl)
  have hq20 : 0 ≤ (A / (2 ^ (N.fdiv (2 ^ Int.toNat 1)).toNat) % B * 2 ^ (N.fdiv (2 ^ Int.toNat 1)).toNat + A % (2 ^ (N.fdiv (2 ^ Int.toNat 1)).toNat)) / B := Int.ediv_nonneg hx0 (Int.le_of_lt hb)
  rw [bitOr_shift (Int.ediv_nonneg h0 (Int.le_of_lt hb)) hq20 hq2]
  have hyd := Int.emod_def (A / (2 ^ (N.fdiv (2 ^ Int.toNat 1)).toNat) % B * 2 ^ (N.fdiv (2 ^ Int.toNat 1)).toNat + A % (2 ^ (N.fdiv (2 ^ Int.toNat 1)).toNat)) B
  have hy0 := Int.emod_nonneg (A / (2 ^ (N.fdiv (2 ^ Int.toNat 1)).toNat) % B * 2 ^ (N.fdiv (2 ^ Int.toNat 1)).toNat + A % (2 ^ (N.fdiv (2 ^ Int.toNat 1)).toNat)) (show B ≠ 0 by lia)
  have hy1 := Int.emod_lt_of_pos (A / (2 ^ (N.fdiv (2 ^ Int.toNat 1)).toNat) % B * 2 ^ (N.fdiv (2 ^ Int.toNat 1)).toNat + A % (2 ^ (N.fdiv (2 ^ Int.toNat 1)).toNat)) hb
  generalize (A / (2 ^ (N.fdiv (2 ^ Int.toNat 1)).toNat) % B * 2 ^ (N.fdiv (2 ^ Int.toNat 1)).toNat + A % (2 ^ (N.fdiv (2 ^ Int.toNat 1)).toNat)) % B = r2 at *
  generalize hg : (A / (2 ^ (N.fdiv (2 ^ Int.toNat 1)).toNat) % B * 2 ^ (N.fdiv (2 ^ Int.toNat 1)).toNat + A % (2 ^ (N.fdiv (2 ^ Int.toNat 1)).toNat)) / B = q2 at *
  have key := kbt_unique (a := A) (q := A / (2 ^ (N.fdiv (2 ^ Int.toNat 1)).toNat) / B * 2 ^ (N.fdiv (2 ^ Int.toNat 1)).toNat + q2) hb (r := r2) ?_ hy0 hy1
  · exact ⟨key.1.symm, key.2.symm⟩
  · rw [hrd] at hyd
    have e1 : A = 2 ^ (N.fdiv (2 ^ Int.toNat 1)).toNat * (A / (2 ^ (N.fdiv (2 ^ Int.toNat 1)).toNat)) + A % (2 ^ (N.fdiv (2 ^ Int.toNat 1)).toNat) := by lia
    rw [hyd]
    generalize A % (2 ^ (N.fdiv (2 ^ Int.toNat 1)).toNat) = m at *
    generalize A / (2 ^ (N.fdiv (2 ^ Int.toNat 1)).toNat) / B = q1 at *
    generalize A / (2 ^ (N.fdiv (2 ^ Int.toNat 1)).toNat) = y at *
    rw [e1]
    grind
theorem D2pre.pad {a b n : Int} (H : D2pre a b n) (hn : n + 1 ≤ 40000) : D2pre (a * 2 ^ Int.toNat 1) (b * 2 ^ Int.toNat 1) (n + 1) := by
  have h1 := H.n1
  have e : (n + 1).toNat = n.toNat + 1 := by lia
  have e2 : (2 : Int) ^ (n.toNat + 1) = 2 ^ n.toNat * 2 := Int.pow_succ 2 n.toNat
  have h2 := H.bl; have h3 := H.bg; have h4 := H.a0; have h5 := H.al
  rw [toNat_one]
  refine ⟨by lia, hn, by rw [e, e2]; lia, by rw [e, e2]; lia, by lia, ?_⟩
  rw [e, e2]
  have h6 : 2 ^ n.toNat * 2 * (b * 2) = 4 * (2 ^ n.toNat * b) := by grind
  lia
theorem pad_fin {a b : Int} (hb : 0 < b) : a * 2 ^ Int.toNat 1 / (b * 2 ^ Int.toNat 1) = a / b ∧ (a * 2 ^ Int.toNat 1 % (b * 2 ^ Int.toNat 1)).fdiv (2 ^ Int.toNat 1) = a % b := by
  rw [toNat_one, fdiv_pos (by decide)]
  have hd := Int.emod_def a b
  have h0 := Int.emod_nonneg a (show b ≠ 0 by lia)
  have h1 := Int.emod_lt_of_pos a hb
  have key := kbt_unique (a := a * 2) (b := b * 2) (q := a / b) (r := a % b * 2) (by lia) (by rw [hd]; grind) (by lia) (by lia)
  rw [key.1, key.2]
  exact ⟨rfl, by lia⟩
end
end Mine
end
section
open PySem PySem.W PyProof.Rows
set_option maxRecDepth 100000
namespace Mine
noncomputable abbrev RetI (news : List (Addr × Obj)) (x : Int) (h₀ : Heap) (L : Addr) (m : Str → Option Value) (s : Shared) (Q : Value → Shared → Prop) : Prop :=
  ∀ (t : Tok) (h' : Heap) (tk' : Nat), Fr h₀ L h' m → News h₀ L h' news → Q (.int x t) { s with heap := h', toks := tk' }
noncomputable abbrev tup2 (x : Int) (t : Tok) (y : Int) (u : Tok) : Obj := { cls := .type "tuple", data := .seq #[.int x t, .int y u] }
noncomputable abbrev RetT (news : List (Addr × Obj)) (x y : Int) (h₀ : Heap) (L : Addr) (m : Str → Option Value) (s : Shared) (Q : Value → Shared → Prop) : Prop :=
  ∀ (p : Addr) (t u : Tok) (h' : Heap) (tk' : Nat), Fr h₀ L h' m → News h₀ L h' ((p, tup2 x t y u) :: news) → (∀ q ∈ news, q.1 < p) → Q (.ref p) { s with heap := h', toks := tk' }
noncomputable abbrev Cl (w : World) (mean : ExcName → Option Value) (mg mb : Str → Option Value) (f : Addr) (sz : Nat) (news : List (Addr × Obj)) (vs : List Value)
   (Ret : Heap → Addr → (Str → Option Value) → Shared → (Value → Shared → Prop) → Prop) : Prop :=
  ∀ (dp un : Nat) (gd : Option (List Code)) (cn : Str) (cs : Scope) (a : Addr) (ccd : Value) (cl : List (Str × Addr)) (outer : List Env) (A₀ : Around) (base h₀ : Heap) (L : Addr) (m : Str → Option Value) (s : Shared) (Q E : Value → Shared → Prop),
    Below A₀ base outer h₀ → Fr h₀ L s.heap m → (hd.heap_39 w.params).In h₀ → News h₀ L s.heap news → Top hd.view_39 (looseW hd.view_39 []) mean mg mb h₀ → cs.kind = .function →
    dp + sz < recursionLimit → un + 8 * sz < cLine → Ret h₀ L m s Q →
      wpAny (model PySem.Challenge.rw_we0001_02.row.prog w) (ktrTop dp un gd cn cs L a ccd cl outer) (call (.ref f) vs) Q E s

local macro_rules | `(tactic| walk_at $s:str) => `(tactic| k_extra $s)

set_option maxHeartbeats 8000000 in
theorem c_div3 (w : World) (mean : ExcName → Option Value) (mg mb : Str → Option Value) (sz : Nat)
   (M : Int) (IH : ∀ (news : List (Addr × Obj)) (a b n : Int) (t u v : Tok), Ob (D2pre a b n ∧ n ≤ M) → Cl w mean mg mb 56 sz news [.int a t, .int b u, .int n v] (RetT news (a / b) (a % b)))
   (news : List (Addr × Obj)) (a12 a3 b b1 b2 n : Int) (t1 t2 t3 t4 t5 t6 : Tok) (H : Ob (D3pre a12 a3 b b1 b2 n ∧ n ≤ M)) :
   Cl w mean mg mb 63 (sz + 1) news [.int a12 t1, .int a3 t2, .int b t3, .int b1 t4, .int b2 t5, .int n t6]  (RetT news ((a12 * 2 ^ n.toNat + a3) / b) ((a12 * 2 ^ n.toNat + a3) % b)) := by
  unfold Cl; k_fill
  intro dp un gd cn cs a9 ccd cl outer A₀ base h₀ L m s Q E B F X N T hk hdp hun hret
  obtain ⟨H, hM⟩ := H
  k_with_none
  k_with "binaryOp LShift int int" => (k_here; with_reducible refine r_lsh ?_ ?_)
  k_with "inplaceOp LShift int int" => (k_here; with_reducible refine r_ilsh ?_ ?_)
  k_with "binaryOp Mult int int" => (k_here; with_reducible refine r_mul ?_ ?_)
  k_with "binaryOp FloorDiv int int" => (k_here; with_reducible refine r_fdiv ?_ ?_)
  k_with "binaryOp Mod int int" => (k_here; with_reducible refine r_mod ?_ ?_)
  k_with "binaryOp RShift int int" => (k_here; with_reducible refine r_rsh ?_ ?_)
  k_with "inplaceOp RShift int int" => (k_here; with_reducible refine r_irsh ?_ ?_)
  k_with "call ref" => (k_here; k_extra "mycall")
  k_with "mycall" => (
    refine' IH _ _ _ _ _ _ _ ?_ _ _ _ _ _ _ _ _ _ _ _ _ _ _ _ _ _ ?k1 ?k2 ?k3 ?k4 ?k5 ?kK ?kd ?ku ?_
    (case k1 => k_asm); (case k2 => k_asm); (case k3 => k_asm); (case k4 => k_asm); (case k5 => k_asm); (case kK => exact rfl); (case kd => cb_room); (case ku => cb_units)
    rotate_left
    intro p9 t9 u9 h9 tk9 F9 N9 l9; (try k_lt l9))
  k_with "exec While Compare cons nil" => k_while (fun _ q r => q * b + r = a12 * 2 ^ n.toNat + a3 ∧ r < b) (fun _ q r => (-r).toNat) "q" "r"
  have hbp := D3pre.bp H
  k_with "state" => first | exact d3_turn (by assumption) (by assumption) (by assumption) | exact D3pre.start2 H | exact D3pre.start1 H (by assumption)
  refine wpAny_call ?_
  k_dflt cell_enter
  k_steps
  all_goals first
    | exact (⟨Int.le_trans (by decide) H.n1, by have := D3pre.n2 H; lia, sm_one⟩ : 0 ≤ n ∧ n ≤ 100000 ∧ Sm 1)
    | exact (⟨Int.le_trans (by decide) H.n1, by have := D3pre.n2 H; lia, H.s_b1⟩ : 0 ≤ n ∧ n ≤ 100000 ∧ Sm b1)
    | exact (⟨Int.le_trans (by decide) H.n1, by have := D3pre.n2 H; lia, H.s_r2⟩ : 0 ≤ n ∧ n ≤ 100000 ∧ Sm (a12 % b1))
    | exact (⟨Int.le_trans (by decide) H.n1, by have := D3pre.n2 H; lia, H.s_r1 (by assumption)⟩ : 0 ≤ n ∧ n ≤ 100000 ∧ Sm (a12 - b1 * 2 ^ n.toNat + b1))
    | exact (Int.le_trans (by decide) H.n1 : (0 : Int) ≤ n)
    | exact (⟨H.s_q1, H.s_b2⟩ : Sm (1 * 2 ^ n.toNat - 1) ∧ Sm b2)
    | exact (⟨H.s_q2 (by assumption), H.s_b2⟩ : Sm (a12 / b1) ∧ Sm b2)
    | exact (⟨H.d2 (by assumption), hM⟩ : D2pre a12 b1 n ∧ n ≤ M)
    | skip
  all_goals (
    obtain ⟨e1, e2⟩ := D3pre.done H ⟨by assumption, by assumption⟩ (by assumption)
    rw [RetT, e1, e2] at hret
    refine' hret _ _ _ _ _ ?e1 (cb_drop ?e2 ?e3) ?e4
    (case e1 => k_asm); (case e2 => k_asm); (case e3 => kcj_all); (case e4 => exact ktn_ltOf (And.right (by assumption))))
end Mine
end
section
open PySem PySem.W PyProof.Rows
set_option maxRecDepth 100000
namespace Mine
local macro_rules | `(tactic| walk_at $s:str) => `(tactic| k_extra $s)


set_option maxHeartbeats 8000000 in
theorem c_div2s (w : World) (mean : ExcName → Option Value) (mg mb : Str → Option Value) (sz : Nat)
   (M : Int) (IH : ∀ (news : List (Addr × Obj)) (a b n : Int) (t u v : Tok), Ob (D2pre a b n ∧ n ≤ M) → Cl w mean mg mb 56 sz news [.int a t, .int b u, .int n v] (RetT news (a / b) (a % b)))
   (news : List (Addr × Obj)) (a b n : Int) (t1 t2 t3 : Tok) (H : Ob (D2pre a b n)) (hM : 4000 < (Builtin.Int.intBits a : Int) - n → n + 1 ≤ 2 * M) :
   Cl w mean mg mb 56 (sz + 2) news [.int a t1, .int b t2, .int n t3]  (RetT news (a / b) (a % b)) := by
  unfold Cl; k_fill
  intro dp un gd cn cs a9 ccd cl outer A₀ base h₀ L m s Q E B F X N T hk hdp hun hret
  have hbp := D2pre.bp H
  have hn1 := D2pre.n1 H
  have hn2 := D2pre.n2 H
  have Ho : Builtin.bitAnd n 1 ≠ 0 → (n + 1) % 2 = 0 := fun h => by rw [bit_one] at h; lia
  have He : Builtin.bitAnd n 1 = 0 → n % 2 = 0 := fun h => by rw [bit_one] at h; lia
  have Hp : Builtin.bitAnd n 1 ≠ 0 → D2pre (a * 2 ^ Int.toNat 1) (b * 2 ^ Int.toNat 1) (n + 1) := fun h => D2pre.pad H (by rw [bit_one] at h; lia)
  have H1 : Builtin.bitAnd n 1 ≠ 0 → 0 ≤ (n + 1).fdiv (2 ^ Int.toNat 1) := fun h => by rw [toNat_one, fdiv_pos (by decide)]; lia
  have H2 : Builtin.bitAnd n 1 = 0 → 0 ≤ n.fdiv (2 ^ Int.toNat 1) := fun h => by rw [toNat_one, fdiv_pos (by decide)]; lia
  have H3 : Builtin.bitAnd n 1 ≠ 0 → 0 ≤ n + 1 := fun h => by lia
  have H4 : Builtin.bitAnd n 1 = 0 → 0 ≤ n := fun h => by lia
  have H5 : Builtin.bitAnd n 1 ≠ 0 → (n + 1).fdiv (2 ^ Int.toNat 1) ≤ 100000 := fun h => by rw [toNat_one, fdiv_pos (by decide)]; lia
  have H6 : Builtin.bitAnd n 1 = 0 → n.fdiv (2 ^ Int.toNat 1) ≤ 100000 := fun h => by rw [toNat_one, fdiv_pos (by decide)]; lia
  k_with_none
  k_with "binaryOp LShift int int" => (k_here; with_reducible refine r_lsh ?_ ?_)
  k_with "inplaceOp LShift int int" => (k_here; with_reducible refine r_ilsh ?_ ?_)
  k_with "binaryOp Mult int int" => (k_here; with_reducible refine r_mul ?_ ?_)
  k_with "binaryOp FloorDiv int int" => (k_here; with_reducible refine r_fdiv ?_ ?_)
  k_with "binaryOp Mod int int" => (k_here; with_reducible refine r_mod ?_ ?_)
  k_with "binaryOp RShift int int" => (k_here; with_reducible refine r_rsh ?_ ?_)
  k_with "inplaceOp RShift int int" => (k_here; with_reducible refine r_irsh ?_ ?_)
  k_with "call builtin:divmod" => (k_here; k_dflt (refine' r_divmod ?k1 ?k2 ?_ ?_; (case k1 => k_asm); (case k2 => k_asm)); intro p9 h9 F9 N9 l9; (try k_lt l9))
  k_with "call ref" => (k_here; k_extra "mycall")
  k_with "mycall" => (
    refine' c_div3 _ _ _ _ _ M IH _ _ _ _ _ _ _ _ _ _ _ _ _ ?_ _ _ _ _ _ _ _ _ _ _ _ _ _ _ _ _ _ ?k1 ?k2 ?k3 ?k4 ?k5 ?kK ?kd ?ku ?_
    (case k1 => k_asm); (case k2 => k_asm); (case k3 => k_asm); (case k4 => k_asm); (case k5 => k_asm); (case kK => exact rfl); (case kd => cb_room); (case ku => cb_units)
    rotate_left
    intro p9 t9 u9 h9 tk9 F9 N9 l9; (try k_lt l9))
  refine wpAny_call ?_
  k_dflt cell_enter
  k_steps
  all_goals first
    | exact absurd (by assumption) (by assumption : ¬ Builtin.bitAnd n 1 = 0)
    | exact (by decide : (0 : Int) ≤ 1)
    | exact H.nopy (by assumption)
    | exact H1 (by assumption)
    | exact H2 (by assumption)
    | exact H3 (by assumption)
    | exact H4 (by assumption)
    | exact (⟨by decide, by decide, H.s_a⟩ : (0 : Int) ≤ 1 ∧ (1 : Int) ≤ 100000 ∧ Sm a)
    | exact (⟨by decide, by decide, H.s_b⟩ : (0 : Int) ≤ 1 ∧ (1 : Int) ≤ 100000 ∧ Sm b)
    | exact ((Hp (by assumption)).pre1 (Ho (by assumption)) (hM (by lia)))
    | exact ((Hp (by assumption)).pre2 (Ho (by assumption)) (hM (by lia)))
    | exact (⟨H1 (by assumption), H5 (by assumption), (Hp (by assumption)).s_q (Ho (by assumption))⟩)
    | exact (⟨H1 (by assumption), H5 (by assumption), sm_one⟩)
    | exact (H.pre1 (He (by assumption)) (by have := hM (by lia); lia))
    | exact (H.pre2 (He (by assumption)) (by have := hM (by lia); lia))
    | exact (⟨H2 (by assumption), H6 (by assumption), H.s_q (He (by assumption))⟩)
    | exact (⟨H2 (by assumption), H6 (by assumption), sm_one⟩)
    | skip
  · rw [RetT, ← fdiv_pos (a := a) (b := b) (Int.le_of_lt hbp), ← fmod_pos (a := a) (b := b) (Int.le_of_lt hbp)] at hret
    refine' hret _ _ _ _ _ ?e1 (cb_drop ?e2 ?e3) ?e4
    (case e1 => k_asm); (case e2 => k_asm); (case e3 => kcj_all); (case e4 => first | assumption | exact ktn_ltOf (And.right (by assumption)) | exact ktn_ltOf (And.right (And.right (by assumption))) | exact ktn_ltOf (And.right (And.right (And.right (by assumption)))))
  · have e := (Hp (by assumption)).fin (Ho (by assumption))
    have e' := pad_fin (a := a) (b := b) hbp
    rw [RetT, ← e'.1, ← e'.2, ← e.1, ← e.2] at hret
    refine' hret _ _ _ _ _ ?e1 (cb_drop ?e2 ?e3) ?e4
    (case e1 => k_asm); (case e2 => k_asm); (case e3 => kcj_all); (case e4 => first | assumption | exact ktn_ltOf (And.right (by assumption)) | exact ktn_ltOf (And.right (And.right (by assumption))) | exact ktn_ltOf (And.right (And.right (And.right (by assumption)))))
  · have e := H.fin (He (by assumption))
    rw [RetT, ← e.1, ← e.2] at hret
    refine' hret _ _ _ _ _ ?e1 (cb_drop ?e2 ?e3) ?e4
    (case e1 => k_asm); (case e2 => k_asm); (case e3 => kcj_all); (case e4 => first | assumption | exact ktn_ltOf (And.right (by assumption)) | exact ktn_ltOf (And.right (And.right (by assumption))) | exact ktn_ltOf (And.right (And.right (And.right (by assumption)))))
end Mine
end
section
open PySem PySem.W PyProof.Rows
namespace Mine
structure DivPre (top bottom common : Int) : Prop where
  t0 : 0 ≤ top
  b0 : 0 < bottom
  c0 : 0 < common
  tl : top < common * bottom
  bl : bottom < 2 ^ 4300
  cl : common < 2 ^ 20000
section
variable {top bottom common : Int}
theorem bits_spec {x : Int} (hx : 0 < x) : x < 2 ^ Builtin.Int.intBits x ∧ 2 ^ Builtin.Int.intBits x ≤ 2 * x := by
  have hne : (x == 0) = false := by
    have : x ≠ 0 := by lia
    simpa using this
  unfold Builtin.Int.intBits
  rw [hne]
  simp only [Bool.false_eq_true, if_false]
  have h0 : x.natAbs ≠ 0 := by lia
  have h1 : x.natAbs < 2 ^ (x.natAbs.log2 + 1) := Nat.lt_log2_self
  have h2 : 2 ^ x.natAbs.log2 ≤ x.natAbs := Nat.log2_self_le h0
  have h3 := cast_pow2 (x.natAbs.log2 + 1)
  have h4 := cast_pow2 (x.natAbs.log2)
  have h5 : (2 : Int) ^ (x.natAbs.log2 + 1) = 2 ^ x.natAbs.log2 * 2 := Int.pow_succ 2 _
  lia
theorem lt_mul_pow {x y : Int} {i j : Nat} (hx : x < 2 ^ i) (hy : y < 2 ^ j) (hy0 : 0 ≤ y) : x * y < 2 ^ (i + j) := by
  rw [pow2_add]
  have h1 : x * y ≤ 2 ^ i * y := Int.mul_le_mul_of_nonneg_right (Int.le_of_lt hx) hy0
  have h2 : 2 ^ i * y < 2 ^ i * 2 ^ j := Int.mul_lt_mul_of_pos_left hy (pow2_pos i)
  lia
theorem DivPre.pos (H : DivPre top bottom common) : 0 < bottom * common := Int.mul_pos H.b0 H.c0
theorem DivPre.bsz (H : DivPre top bottom common) : bottom * common < 2 ^ 24300 := lt_mul_pow (i := 4300) (j := 20000) H.bl H.cl (Int.le_of_lt H.c0)
theorem DivPre.s_b (H : DivPre top bottom common) : Sm bottom := sm_nn (Int.le_of_lt H.b0) H.bl (by decide)
theorem DivPre.s_c (H : DivPre top bottom common) : Sm common := sm_nn (Int.le_of_lt H.c0) H.cl (by decide)
theorem DivPre.s_t (H : DivPre top bottom common) : Sm top := by
  have h1 := H.bsz
  have h2 := H.tl
  rw [Int.mul_comm] at h2
  exact sm_nn (n := 24300) H.t0 (Int.lt_trans h2 h1) (by decide)
theorem DivPre.d2 (H : DivPre top bottom common) : D2pre (top * common) (bottom * common) (Builtin.Int.intBits (bottom * common)) := by
  have hp := H.pos
  obtain ⟨h1, h2⟩ := bits_spec hp
  have h3 : (Builtin.Int.intBits (bottom * common)) ≤ 24300 := by
    refine bits_le ?_
    have := H.bsz
    have := cast_pow2 24300
    lia
  have hb := H.b0
  refine ⟨?_, by lia, by rw [Int.toNat_natCast]; exact h1, by rw [Int.toNat_natCast]; exact h2, Int.mul_nonneg H.t0 (Int.le_of_lt H.c0), ?_⟩
  · have : Builtin.Int.intBits (bottom * common) ≠ 0 := by
      intro h0; rw [h0] at h1; simp at h1; lia
    lia
  · rw [Int.toNat_natCast]
    have h4 : top * common < common * bottom * common := Int.mul_lt_mul_of_pos_right H.tl H.c0
    have h5 : common ≤ bottom * common := by
      have : 1 * common ≤ bottom * common := Int.mul_le_mul_of_nonneg_right (by lia) (Int.le_of_lt H.c0)
      lia
    have h6 : common * (bottom * common) ≤ 2 ^ Builtin.Int.intBits (bottom * common) * (bottom * common) := Int.mul_le_mul_of_nonneg_right (by lia) (Int.le_of_lt hp)
    rw [Int.mul_assoc] at h4
    lia
theorem DivPre.quo (H : DivPre top bottom common) : top * common / (bottom * common) = top / bottom := Int.mul_ediv_mul_of_pos_left _ _ H.c0
theorem DivPre.rem (H : DivPre top bottom common) : top * common % (bottom * common) = top % bottom * common := by
  rw [Int.mul_comm top, Int.mul_comm bottom, Int.mul_emod_mul_of_pos _ _ H.c0, Int.mul_comm]
theorem DivPre.m0 (H : DivPre top bottom common) : (top * common % (bottom * common)).fmod common = 0 := by
  rw [H.rem, fmod_pos (Int.le_of_lt H.c0)]; exact Int.mul_emod_left _ _
theorem DivPre.c1 (H : DivPre top bottom common) : common ≠ 0 := by have := H.c0; lia
theorem DivPre.fin (H : DivPre top bottom common) : (top * common % (bottom * common)).fdiv common = top % bottom := by
  rw [H.rem, fdiv_pos (Int.le_of_lt H.c0)]; exact Int.mul_ediv_cancel _ H.c1
theorem DivPre.nopy (H : DivPre top bottom common) : common ≠ 0 ∧ Builtin.divisionGoesByPylong (top * common % (bottom * common)) common = false := by
  refine ⟨H.c1, no_pylong (k := Builtin.Int.intBits common - 1) ?_ ?_⟩
  · obtain ⟨h1, h2⟩ := bits_spec H.c0
    have h3 : 0 ≤ top % bottom := Int.emod_nonneg _ (by have := H.b0; lia)
    have h4 : top % bottom < 2 ^ 4300 := Int.lt_trans (Int.emod_lt_of_pos _ H.b0) H.bl
    have h5 : top % bottom * common < 2 ^ (4300 + Builtin.Int.intBits common) := lt_mul_pow h4 h1 (Int.le_of_lt H.c0)
    have h6 : 0 ≤ top % bottom * common := Int.mul_nonneg h3 (Int.le_of_lt H.c0)
    rw [H.rem]
    have h7 : 4300 + Builtin.Int.intBits common ≤ Builtin.Int.intBits common - 1 + 4400 := by lia
    have h8 := Nat.pow_le_pow_right (n := 2) (by decide) h7
    have h9 := cast_pow2 (4300 + Builtin.Int.intBits common)
    lia
  · obtain ⟨h1, h2⟩ := bits_spec H.c0
    have h0 : Builtin.Int.intBits common ≠ 0 := by
      intro h0; rw [h0] at h1; have := H.c0; simp at h1; lia
    have h3 : Builtin.Int.intBits common = (Builtin.Int.intBits common - 1) + 1 := by lia
    have h4 : (2 : Int) ^ Builtin.Int.intBits common = 2 ^ (Builtin.Int.intBits common - 1) * 2 := by
      rw [h3, Int.pow_succ]; simp
    have h5 := cast_pow2 (Builtin.Int.intBits common - 1)
    have := H.c0
    lia
end
end Mine
end
section
open PySem PySem.W PyProof.Rows
set_option maxRecDepth 100000
namespace Mine
local macro_rules | `(tactic| walk_at $s:str) => `(tactic| k_extra $s)

theorem c_div2k (w : World) (mean : ExcName → Option Value) (mg mb : Str → Option Value) : ∀ (k : Nat)
   (news : List (Addr × Obj)) (a b n : Int) (t1 t2 t3 : Tok), Ob (D2pre a b n ∧ n ≤ 3999 * 2 ^ k + 1) →
   Cl w mean mg mb 56 (2 * k + 2) news [.int a t1, .int b t2, .int n t3]  (RetT news (a / b) (a % b))
  | 0, news, a, b, n, t1, t2, t3, H => c_div2s w mean mg mb 0 0 (fun _ a b n _ _ _ h => absurd h.1.n1 (by have := h.2; lia)) news a b n t1 t2 t3 H.1
      (fun h => by have h1 := H.2; have h2 := H.1.deep (by lia); rw [Int.pow_zero] at h1; lia)
  | k + 1, news, a, b, n, t1, t2, t3, H => c_div2s w mean mg mb (2 * k + 2) (3999 * 2 ^ k + 1) (fun news a b n t u v h => c_div2k w mean mg mb k news a b n t u v h) news a b n t1 t2 t3 H.1
      (fun _ => by have h1 := H.2; rw [Int.pow_succ] at h1; lia)
theorem c_div2 (w : World) (mean : ExcName → Option Value) (mg mb : Str → Option Value)
   (news : List (Addr × Obj)) (a b n : Int) (t1 t2 t3 : Tok) (H : Ob (D2pre a b n)) :
   Cl w mean mg mb 56 10 news [.int a t1, .int b t2, .int n t3]  (RetT news (a / b) (a % b)) :=
  c_div2k w mean mg mb 4 news a b n t1 t2 t3 ⟨H, by have := H.n2; lia⟩
set_option maxHeartbeats 8000000 in
theorem c_isub (w : World) (mean : ExcName → Option Value) (mg mb : Str → Option Value) (news : List (Addr × Obj)) (x y : Int) (t u : Tok) :
   Cl w mean mg mb 42 1 news [.int x t, .int y u] (RetI news (x - y)) := by
  unfold Cl; k_fill
  intro dp un gd cn cs a9 ccd cl outer A₀ base h₀ L m s Q E hB hF hX hN hTop hk hdp hun hret
  k_with_none
  k_with "binaryOp LShift int int" => (k_here; with_reducible refine r_lsh ?_ ?_)
  k_with "inplaceOp LShift int int" => (k_here; with_reducible refine r_ilsh ?_ ?_)
  k_with "binaryOp Mult int int" => (k_here; with_reducible refine r_mul ?_ ?_)
  k_with "binaryOp FloorDiv int int" => (k_here; with_reducible refine r_fdiv ?_ ?_)
  k_with "binaryOp Mod int int" => (k_here; with_reducible refine r_mod ?_ ?_)
  k_with "binaryOp RShift int int" => (k_here; with_reducible refine r_rsh ?_ ?_)
  k_with "inplaceOp RShift int int" => (k_here; with_reducible refine r_irsh ?_ ?_)
  k_with "call builtin:divmod" => (k_here; k_dflt (refine' r_divmod ?k1 ?k2 ?_ ?_; (case k1 => k_asm); (case k2 => k_asm)); intro p9 h9 F9 N9 l9; (try k_lt l9))
  k_with "call builtin:list.append" => (k_here; k_dflt (refine' r_append ?k1 ?k2 ?k3 ?_ ?_; (case k1 => k_asm); (case k2 => k_asm); (case k3 => k_upd)); intro h' F' N'; (try k_sweep))
  k_with "call ref" => (k_here; k_extra "mycall")
  refine wpAny_call ?_
  k_dflt cell_enter
  k_steps
  all_goals (refine' hret _ _ _ ?e1 (cb_drop ?e2 ?e3); (case e1 => k_asm); (case e2 => k_asm); (case e3 => kcj_all))
set_option maxHeartbeats 8000000 in
theorem c_iadd (w : World) (mean : ExcName → Option Value) (mg mb : Str → Option Value) (news : List (Addr × Obj)) (x y : Int) (t u : Tok) :
   Cl w mean mg mb 21 1 news [.int x t, .int y u] (RetI news (x + y)) := by
  unfold Cl; k_fill
  intro dp un gd cn cs a9 ccd cl outer A₀ base h₀ L m s Q E hB hF hX hN hTop hk hdp hun hret
  k_with_none
  k_with "binaryOp LShift int int" => (k_here; with_reducible refine r_lsh ?_ ?_)
  k_with "inplaceOp LShift int int" => (k_here; with_reducible refine r_ilsh ?_ ?_)
  k_with "binaryOp Mult int int" => (k_here; with_reducible refine r_mul ?_ ?_)
  k_with "binaryOp FloorDiv int int" => (k_here; with_reducible refine r_fdiv ?_ ?_)
  k_with "binaryOp Mod int int" => (k_here; with_reducible refine r_mod ?_ ?_)
  k_with "binaryOp RShift int int" => (k_here; with_reducible refine r_rsh ?_ ?_)
  k_with "inplaceOp RShift int int" => (k_here; with_reducible refine r_irsh ?_ ?_)
  k_with "call builtin:divmod" => (k_here; k_dflt (refine' r_divmod ?k1 ?k2 ?_ ?_; (case k1 => k_asm); (case k2 => k_asm)); intro p9 h9 F9 N9 l9; (try k_lt l9))
  k_with "call builtin:list.append" => (k_here; k_dflt (refine' r_append ?k1 ?k2 ?k3 ?_ ?_; (case k1 => k_asm); (case k2 => k_asm); (case k3 => k_upd)); intro h' F' N'; (try k_sweep))
  k_with "call ref" => (k_here; k_extra "mycall")
  refine wpAny_call ?_
  k_dflt cell_enter
  k_steps
  all_goals (refine' hret _ _ _ ?e1 (cb_drop ?e2 ?e3); (case e1 => k_asm); (case e2 => k_asm); (case e3 => kcj_all))
set_option maxHeartbeats 8000000 in
theorem c_iand (w : World) (mean : ExcName → Option Value) (mg mb : Str → Option Value) (news : List (Addr × Obj)) (x y : Int) (t u : Tok) :
   Cl w mean mg mb 28 1 news [.int x t, .int y u] (RetI news (Builtin.bitAnd x y)) := by
  unfold Cl; k_fill
  intro dp un gd cn cs a9 ccd cl outer A₀ base h₀ L m s Q E hB hF hX hN hTop hk hdp hun hret
  k_with_none
  k_with "binaryOp LShift int int" => (k_here; with_reducible refine r_lsh ?_ ?_)
  k_with "inplaceOp LShift int int" => (k_here; with_reducible refine r_ilsh ?_ ?_)
  k_with "binaryOp Mult int int" => (k_here; with_reducible refine r_mul ?_ ?_)
  k_with "binaryOp FloorDiv int int" => (k_here; with_reducible refine r_fdiv ?_ ?_)
  k_with "binaryOp Mod int int" => (k_here; with_reducible refine r_mod ?_ ?_)
  k_with "binaryOp RShift int int" => (k_here; with_reducible refine r_rsh ?_ ?_)
  k_with "inplaceOp RShift int int" => (k_here; with_reducible refine r_irsh ?_ ?_)
  k_with "call builtin:divmod" => (k_here; k_dflt (refine' r_divmod ?k1 ?k2 ?_ ?_; (case k1 => k_asm); (case k2 => k_asm)); intro p9 h9 F9 N9 l9; (try k_lt l9))
  k_with "call builtin:list.append" => (k_here; k_dflt (refine' r_append ?k1 ?k2 ?k3 ?_ ?_; (case k1 => k_asm); (case k2 => k_asm); (case k3 => k_upd)); intro h' F' N'; (try k_sweep))
  k_with "call ref" => (k_here; k_extra "mycall")
  refine wpAny_call ?_
  k_dflt cell_enter
  k_steps
  all_goals (refine' hret _ _ _ ?e1 (cb_drop ?e2 ?e3); (case e1 => k_asm); (case e2 => k_asm); (case e3 => kcj_all))
set_option maxHeartbeats 8000000 in
theorem c_ixor (w : World) (mean : ExcName → Option Value) (mg mb : Str → Option Value) (news : List (Addr × Obj)) (x y : Int) (t u : Tok) :
   Cl w mean mg mb 49 1 news [.int x t, .int y u] (RetI news (Builtin.bitXor x y)) := by
  unfold Cl; k_fill
  intro dp un gd cn cs a9 ccd cl outer A₀ base h₀ L m s Q E hB hF hX hN hTop hk hdp hun hret
  k_with_none
  k_with "binaryOp LShift int int" => (k_here; with_reducible refine r_lsh ?_ ?_)
  k_with "inplaceOp LShift int int" => (k_here; with_reducible refine r_ilsh ?_ ?_)
  k_with "binaryOp Mult int int" => (k_here; with_reducible refine r_mul ?_ ?_)
  k_with "binaryOp FloorDiv int int" => (k_here; with_reducible refine r_fdiv ?_ ?_)
  k_with "binaryOp Mod int int" => (k_here; with_reducible refine r_mod ?_ ?_)
  k_with "binaryOp RShift int int" => (k_here; with_reducible refine r_rsh ?_ ?_)
  k_with "inplaceOp RShift int int" => (k_here; with_reducible refine r_irsh ?_ ?_)
  k_with "call builtin:divmod" => (k_here; k_dflt (refine' r_divmod ?k1 ?k2 ?_ ?_; (case k1 => k_asm); (case k2 => k_asm)); intro p9 h9 F9 N9 l9; (try k_lt l9))
  k_with "call builtin:list.append" => (k_here; k_dflt (refine' r_append ?k1 ?k2 ?k3 ?_ ?_; (case k1 => k_asm); (case k2 => k_asm); (case k3 => k_upd)); intro h' F' N'; (try k_sweep))
  k_with "call ref" => (k_here; k_extra "mycall")
  refine wpAny_call ?_
  k_dflt cell_enter
  k_steps
  all_goals (refine' hret _ _ _ ?e1 (cb_drop ?e2 ?e3); (case e1 => k_asm); (case e2 => k_asm); (case e3 => kcj_all))
set_option maxHeartbeats 8000000 in
theorem c_ilshift (w : World) (mean : ExcName → Option Value) (mg mb : Str → Option Value) (news : List (Addr × Obj)) (x y : Int) (t u : Tok) (H : Ob (0 ≤ y ∧ y ≤ 100000 ∧ Sm x)) :
   Cl w mean mg mb 35 1 news [.int x t, .int y u] (RetI news (x * 2 ^ y.toNat)) := by
  unfold Cl; k_fill
  intro dp un gd cn cs a9 ccd cl outer A₀ base h₀ L m s Q E hB hF hX hN hTop hk hdp hun hret
  k_with_none
  k_with "binaryOp LShift int int" => (k_here; with_reducible refine r_lsh ?_ ?_)
  k_with "inplaceOp LShift int int" => (k_here; with_reducible refine r_ilsh ?_ ?_)
  k_with "binaryOp Mult int int" => (k_here; with_reducible refine r_mul ?_ ?_)
  k_with "binaryOp FloorDiv int int" => (k_here; with_reducible refine r_fdiv ?_ ?_)
  k_with "binaryOp Mod int int" => (k_here; with_reducible refine r_mod ?_ ?_)
  k_with "binaryOp RShift int int" => (k_here; with_reducible refine r_rsh ?_ ?_)
  k_with "inplaceOp RShift int int" => (k_here; with_reducible refine r_irsh ?_ ?_)
  k_with "call builtin:divmod" => (k_here; k_dflt (refine' r_divmod ?k1 ?k2 ?_ ?_; (case k1 => k_asm); (case k2 => k_asm)); intro p9 h9 F9 N9 l9; (try k_lt l9))
  k_with "call builtin:list.append" => (k_here; k_dflt (refine' r_append ?k1 ?k2 ?k3 ?_ ?_; (case k1 => k_asm); (case k2 => k_asm); (case k3 => k_upd)); intro h' F' N'; (try k_sweep))
  k_with "call ref" => (k_here; k_extra "mycall")
  refine wpAny_call ?_
  k_dflt cell_enter
  k_steps
  all_goals first | exact H | (refine' hret _ _ _ ?e1 (cb_drop ?e2 ?e3); (case e1 => k_asm); (case e2 => k_asm); (case e3 => kcj_all))
set_option maxHeartbeats 8000000 in
theorem c_divide (w : World) (mean : ExcName → Option Value) (mg mb : Str → Option Value) (news : List (Addr × Obj)) (top bottom common : Int) (t u v : Tok) (H : Ob (DivPre top bottom common)) :
   Cl w mean mg mb 70 11 news [.int top t, .int bottom u, .int common v] (RetT news (top / bottom) (top % bottom)) := by
  unfold Cl; k_fill
  intro dp un gd cn cs a9 ccd cl outer A₀ base h₀ L m s Q E hB hF hX hN hTop hk hdp hun hret
  k_with_none
  k_with "binaryOp LShift int int" => (k_here; with_reducible refine r_lsh ?_ ?_)
  k_with "inplaceOp LShift int int" => (k_here; with_reducible refine r_ilsh ?_ ?_)
  k_with "binaryOp Mult int int" => (k_here; with_reducible refine r_mul ?_ ?_)
  k_with "binaryOp FloorDiv int int" => (k_here; with_reducible refine r_fdiv ?_ ?_)
  k_with "binaryOp Mod int int" => (k_here; with_reducible refine r_mod ?_ ?_)
  k_with "binaryOp RShift int int" => (k_here; with_reducible refine r_rsh ?_ ?_)
  k_with "inplaceOp RShift int int" => (k_here; with_reducible refine r_irsh ?_ ?_)
  k_with "call builtin:divmod" => (k_here; k_dflt (refine' r_divmod ?k1 ?k2 ?_ ?_; (case k1 => k_asm); (case k2 => k_asm)); intro p9 h9 F9 N9 l9; (try k_lt l9))
  k_with "call builtin:list.append" => (k_here; k_dflt (refine' r_append ?k1 ?k2 ?k3 ?_ ?_; (case k1 => k_asm); (case k2 => k_asm); (case k3 => k_upd)); intro h' F' N'; (try k_sweep))
  k_with "call ref" => (k_here; k_extra "mycall")
  k_with "mycall" => (refine' c_div2 _ _ _ _ _ _ _ _ _ _ _ ?_ _ _ _ _ _ _ _ _ _ _ _ _ _ _ _ _ _ ?k1 ?k2 ?k3 ?k4 ?k5 ?kK ?kd ?ku ?_; (case k1 => k_asm); (case k2 => k_asm); (case k3 => k_asm); (case k4 => k_asm); (case k5 => k_asm); (case kK => exact rfl); (case kd => cb_room); (case ku => cb_units); rotate_left; intro p9 t9 u9 h9 tk9 F9 N9 l9; (try k_lt l9))
  refine wpAny_call ?_
  k_dflt cell_enter
  k_steps
  all_goals first
    | exact H.nopy
    | exact H.c1
    | exact H.d2
    | exact (⟨H.s_t, H.s_c⟩ : Sm top ∧ Sm common)
    | exact (⟨H.s_b, H.s_c⟩ : Sm bottom ∧ Sm common)
    | exact absurd H.m0 (by assumption)
    | (rw [RetT, ← H.quo, ← H.fin] at hret; (refine' hret _ _ _ _ _ ?e1 (cb_drop ?e2 ?e3) ?e4; (case e1 => k_asm); (case e2 => k_asm); (case e3 => kcj_all); (case e4 => first | assumption | exact ktn_ltOf (And.right (by assumption)) | exact ktn_ltOf (And.right (And.right (by assumption))) | exact ktn_ltOf (And.right (And.right (And.right (by assumption)))))))
end Mine
end
section
open PySem PySem.W PyProof.Rows PySem.Calls PyProof.V PySem.Spec
namespace Mine
noncomputable abbrev Led := List (Addr × Obj)
section
variable {prog : Program} {w : World} {A : Around} {E : Value → Shared → Prop} {s : Shared} {env : Env} {h₀ : Heap} {x : Str} {body : List Stmt} {Q : Flow → Shared → Prop}

noncomputable def LpEnd {σ : Type} (h₀ : Heap) (L : Addr) (G : σ → Led) (R : Led) (ps : σ → List (Str × Value)) (x : Str) (stored : List Str) (m₀ : Str → Option Value) (P : σ → Prop) (I : Addr) (it : Obj) (s₁ s₂ : Shared) : Prop :=
  ∃ (c' : σ) (h' : Heap) (tk : Nat) (m' : Str → Option Value) (news' : Led), s₂ = { s₁ with heap := h', toks := tk } ∧ Fr h₀ L h' m' ∧ News h₀ L h' news' ∧ (∀ p ∈ G c' ++ R, p ∈ news') ∧ (I, it) ∈ news' ∧ (∀ p ∈ G c', p.2.cls ≠ it.cls) ∧
    (∀ p ∈ ps c', m' p.1 = some p.2) ∧ (∀ z, z ≠ x → (∀ p ∈ ps c', z ≠ p.1) → stored.contains z = false → m' z = m₀ z) ∧ P c'
noncomputable def LpPost {σ : Type} (h₀ : Heap) (L : Addr) (G : σ → Led) (R : Led) (ps : σ → List (Str × Value)) (x : Str) (stored : List Str) (m₀ : Str → Option Value) (P : σ → Prop) (I : Addr) (it : Obj) (s₁ : Shared) (Q : Flow → Shared → Prop) (f : Flow) (s₂ : Shared) : Prop :=
  match f with
  | .ret v => Q (.ret v) s₂
  | .brk => Q .next s₂
  | _ => LpEnd h₀ L G R ps x stored m₀ P I it s₁ s₂
noncomputable abbrev lpM {σ : Type} (ps : σ → List (Str × Value)) (stored : List Str) (u m₀ : Str → Option Value) (c : σ) : Str → Option Value := kstB (fun z => if stored.contains z then u z else m₀ z) (ps c)

theorem lp_walk {σ : Type} {I : Addr} {fp : List Addr} {n : Nat} {Pv : Nat → Value → Prop} {St : Nat → Heap → Prop} {m₀ : Str → Option Value} {ic : Value}
    (G : σ → Led) (R : Led) (ps : σ → List (Str × Value)) (stored : List Str) (P : Nat → σ → Prop) (c₀ : σ)
    (W : Walks prog w A I fp [I] n Pv St) (hLf : env.locals ∉ fp) (hIf : I ∈ fp) (hI : h₀.get? I = none) (hst : St 0 s.heap)
    (hSt : ∀ i h, St i h → ∃ it, h.get? I = some it ∧ it.cls = ic)
    (hown : ∀ (h : Heap) (p : Addr × Obj), p.1 ∈ fp → News h₀ env.locals h [p] → News h₀ env.locals h R → p.1 = I ∨ p ∈ R)
    (F : Fr h₀ env.locals s.heap m₀) (N : News h₀ env.locals s.heap (G c₀ ++ R)) (hnI : ∀ p ∈ G c₀ ++ R, p.1 ≠ I) (hk : ∀ p ∈ ps c₀, m₀ p.1 = some p.2) (hp : P 0 c₀)
    (turn : ∀ (c : σ) (i : Nat) v (u : Str → Option Value) (it : Obj) h tk, i < n → Pv i v → (∀ p ∈ G c ++ R, p.1 ≠ I) → it.cls = ic → P i c →
      Fr h₀ env.locals h (fun y => if y = x then some v else lpM ps stored u m₀ c y) → News h₀ env.locals h ((I, it) :: (G c ++ R)) →
      wpAny (model prog w) A (execs body env) (LpPost h₀ env.locals G R ps x stored m₀ (P (i + 1)) I it { s with heap := h, toks := tk } Q) E { s with heap := h, toks := tk })
    (done : ∀ (c : σ) (u : Str → Option Value) h tk, P n c → Fr h₀ env.locals h (fun y => if y = x then u y else lpM ps stored u m₀ c y) → News h₀ env.locals h (G c ++ R) → Q .next { s with heap := h, toks := tk }) :
    LoopAtV prog w A h₀ env x body Q E (.ref I) s := by
  let J : Nat → (Str → Option Value) → Led → Prop := fun i m nx => ∃ c : σ, nx = G c ++ R ∧ (∀ p ∈ nx, p.1 ≠ I) ∧ (∀ p ∈ ps c, m p.1 = some p.2) ∧ (∀ z, z ≠ x → (∀ p ∈ ps c, z ≠ p.1) → stored.contains z = false → m z = m₀ z) ∧ P i c
  refine ⟨I, fp, [I], n, Pv, St, m₀, G c₀ ++ R, J, rfl, W, hLf, ?_, ?_, hst, F, N, ⟨c₀, rfl, hnI, hk, fun _ _ _ _ => rfl, hp⟩, ?_, ?_⟩
  · intro b hb
    rw [List.mem_singleton.mp hb]; exact hI
  · intro p hp h
    exact hnI p hp (List.mem_singleton.mp h)
  · rintro i v m₁ nx s₁ own ⟨h, tk, rfl⟩ hin hP ⟨c, rfl, hne, h1, h2, hpc⟩ _ hof hget hmem hst₁ F₁ N₁
    obtain ⟨it, hit, hcls⟩ := hSt _ _ hst₁
    have hIown : (I, it) ∈ own := hmem I hIf hI it hit
    have N₂ : News h₀ env.locals h ((I, it) :: (G c ++ R)) := fun p hp => by
      rcases List.mem_cons.mp hp with rfl | hp
      · exact N₁ _ (List.mem_append_left _ hIown)
      · exact N₁ _ (List.mem_append_right _ hp)
    refine wpAny_mono (turn c i v m₁ it h tk hin hP hne hcls hpc (kst_fr h1 h2 F₁) N₂) (fun f s₂ p => ?_) fun _ _ e => e
    have fin : LpEnd h₀ env.locals G R ps x stored m₀ (P (i + 1)) I it { s with heap := h, toks := tk } s₂ → LoopStepU h₀ env.locals [I] own (J (i + 1)) { s with heap := h, toks := tk } .next s₂ := by
      rintro ⟨c', h', tk', m', news', e, F', N', hn, hitn, hc, hk', hr', hP'⟩
      have hitg := (N' _ hitn).1
      have hne' : ∀ p ∈ G c' ++ R, p.1 ≠ I := fun p hp e => by
        rcases List.mem_append.mp hp with hp' | hp'
        · have := (N' p (hn p hp)).1
          rw [e, hitg] at this
          exact hc p hp' (by rw [← Option.some.inj this])
        · exact hne p (List.mem_append_right _ hp') e
      refine ⟨rfl, h', tk', m', G c' ++ R, e, F', fun p hp => ?_, fun p hp h => hne' p hp (List.mem_singleton.mp h), c', rfl, hne', hk', hr', hP'⟩
      rcases List.mem_append.mp hp with hp | hp
      · rcases hown h p (hof p hp) (fun q hq => by rw [List.mem_singleton.mp hq]; exact N₁ p (List.mem_append_left _ hp)) (fun q hq => N₁ q (List.mem_append_right _ (List.mem_append_right _ hq))) with e1 | e1
        · have e2 := hget p hp
          rw [e1, hit] at e2
          have e3 : p = (I, it) := Prod.ext e1 (Option.some.inj e2).symm
          rw [e3]; exact N' _ hitn
        · exact N' _ (hn _ (List.mem_append_right _ e1))
      · exact N' _ (hn _ hp)
    cases f with
    | ret v => exact .ret p
    | brk => exact .brk p
    | next => exact .next (fin p)
    | cont => exact .cont (fin p)
  · rintro h' tk m' news' F' N' _ ⟨c, rfl, _, h1, h2, hpc⟩
    exact done c m' h' tk hpc (kst_frOut h1 h2 F') N'

theorem lp_range {σ : Type} {r : Addr} {a₀ b₀ : Int} {t₀ u₀ v₀ : Tok} {n : Nat} {m₀ : Str → Option Value}
    (G : σ → Led) (R : Led) (ps : σ → List (Str × Value)) (stored : List Str) (P : Nat → σ → Prop) (c₀ : σ)
    (hh : A.handled = none) (hr : IsRange s.heap r a₀ b₀ 1 t₀ u₀ v₀) (hsmall : Builtin.Range.small a₀ b₀ 1 = true) (hn : Builtin.Range.rangeSize a₀ b₀ 1 = (n : Int)) (F : Fr h₀ env.locals s.heap m₀) (N : News h₀ env.locals s.heap (G c₀ ++ R)) (hk : ∀ p ∈ ps c₀, m₀ p.1 = some p.2) (hp : P 0 c₀)
    (turn : ∀ (c : σ) (i : Nat) t (u : Str → Option Value) (I : Addr) (it : Obj) h tk, i < n → (∀ p ∈ G c ++ R, p.1 ≠ I) → it.cls = .type "range_iterator" → P i c →
      Fr h₀ env.locals h (fun y => if y = x then some (.int (a₀ + (i : Int)) t) else lpM ps stored u m₀ c y) → News h₀ env.locals h ((I, it) :: (G c ++ R)) →
      wpAny (model prog w) A (execs body env) (LpPost h₀ env.locals G R ps x stored m₀ (P (i + 1)) I it { s with heap := h, toks := tk } Q) E { s with heap := h, toks := tk })
    (done : ∀ (c : σ) (u : Str → Option Value) h tk, P n c → Fr h₀ env.locals h (fun y => if y = x then u y else lpM ps stored u m₀ c y) → News h₀ env.locals h (G c ++ R) → Q .next { s with heap := h, toks := tk }) :
    wpAny (model prog w) A (pyIter (.ref r)) (fun it s₂ => LoopAtV prog w A h₀ env x body Q E it s₂) E s := by
  refine wpAny_pyIter_range hr hsmall ?_
  have W : Walks prog w A s.heap.objs.size [s.heap.objs.size] [s.heap.objs.size] n (fun i v => i < n ∧ ∃ t, v = .int (a₀ + i * 1) t)
      (fun i h => IsRangeIter h s.heap.objs.size (a₀ + (i : Nat) * 1) ((n : Int) - (i : Nat)) 1) := (Walks.range hh _ a₀ 1 n).bound
  refine lp_walk (ic := .type "range_iterator") G R ps stored P c₀ W ?_ (.head _) (next_is_new F) (by show IsRangeIter _ _ _ _ _; rw [hn]; simpa using Heap.get?_push_size _ rfl) ?_ ?_ (F.push _)
    (fun p hp => ⟨Heap.get?_push_of_some _ (N p hp).1, (N p hp).2⟩) ?_ hk hp ?_ ?_
  · intro hm
    exact absurd F.ns.lt ((List.mem_singleton.mp hm) ▸ Nat.lt_irrefl _)
  · intro i h st
    exact ⟨_, st, rfl⟩
  · intro h p hp _ _
    exact .inl (List.mem_singleton.mp hp)
  · intro p hp e
    exact absurd (Heap.lt_size (N p hp).1) (e ▸ Nat.lt_irrefl _)
  · rintro c i v u it h tk hi ⟨_, t, rfl⟩ hne hc hP F' N'
    have e1 : a₀ + (i : Int) * 1 = a₀ + (i : Int) := by lia
    rw [e1] at F'
    exact turn c i t u _ it h tk hi hne hc hP F' N'
  · intro c u h tk hP F' N'
    exact done c u h tk hP F' N'

end
end Mine
namespace Mine
section
variable {σ : Type} {h₀ h' : Heap} {L : Addr} {G : σ → Led} {R : Led} {ps : σ → List (Str × Value)} {x : Str} {stored : List Str} {m₀ m' : Str → Option Value} {P : σ → Prop} {I : Addr} {it : Obj} {s₁ : Shared} {tk : Nat} {news' : Led}
theorem LpEnd.intro (c' : σ) (F : Fr h₀ L h' m') (N : News h₀ L h' news') (hn : ∀ p ∈ G c' ++ R, p ∈ news') (hit : (I, it) ∈ news') (hc : ∀ p ∈ G c', p.2.cls ≠ it.cls)
    (hk : ∀ p ∈ ps c', m' p.1 = some p.2) (hr : ∀ z, z ≠ x → (∀ p ∈ ps c', z ≠ p.1) → stored.contains z = false → m' z = m₀ z) (hp : P c') : LpEnd h₀ L G R ps x stored m₀ P I it s₁ { s₁ with heap := h', toks := tk } :=
  ⟨c', h', tk, m', news', rfl, F, N, hn, hit, hc, hk, hr, hp⟩
end
section
variable {prog : Program} {w : World} {A : Around} {E : Value → Shared → Prop} {s : Shared} {h₀ : Heap} {L D : Addr} {m : Str → Option Value} {nw nw' : Led}
theorem r_append {its : Array Value} {n : Nat} {x : Value} {Q : Value → Shared → Prop} (F : Fr h₀ L s.heap m) (N : News h₀ L s.heap nw) (U : Upd D (listOf its n) (listOf (its.push x) (n + 1)) nw nw')
    (h : ∀ h', Fr h₀ L h' m → News h₀ L h' nw' → Q .none { s with heap := h' }) (hsz : Ob (its.size ≤ 16777216)) : wpAny (model prog w) A (call (.builtin "list.append") [.ref D, x]) Q E s :=
  append_K F N U h (by rw [sizeLine_eq]; exact hsz)
end
theorem ne_cls {o it : Obj} {a b : String} (h1 : o.cls = .type a) (h2 : it.cls = .type b) (h : a ≠ b) : o.cls ≠ it.cls := by
  rw [h1, h2]; intro e; exact h (Value.type.inj e)
theorem tn_zero (i : Nat) : (0 + (i : Int)).toNat = i := by lia
section
variable {c i : Nat} {common : Int}
theorem tn_sub (c : Nat) : ((c : Int) - 0).toNat = c := by lia
end
end Mine
end
section
open PySem PySem.W PyProof.Rows
namespace Mine
theorem bxor_nat (a b : Nat) : Builtin.bitXor (a : Int) (b : Int) = ((a ^^^ b : Nat) : Int) := by
  rw [bitXor_and, bitAnd_pp (Int.natCast_nonneg a) (Int.natCast_nonneg b), Int.toNat_natCast, Int.toNat_natCast]
  have h1 := nat_or_add_and a b
  have h2 : (a ^^^ b) + (a &&& b) = (a ||| b) := by
    have e : a ||| b = (a ^^^ b) ||| (a &&& b) := by
      apply Nat.eq_of_testBit_eq; intro i
      simp only [Nat.testBit_or, Nat.testBit_xor, Nat.testBit_and]
      cases a.testBit i <;> cases b.testBit i <;> rfl
    have e2 : (a ^^^ b) &&& (a &&& b) = 0 := by
      apply Nat.eq_of_testBit_eq; intro i
      simp only [Nat.testBit_xor, Nat.testBit_and, Nat.zero_testBit]
      cases a.testBit i <;> cases b.testBit i <;> rfl
    have h3 := nat_or_add_and (a ^^^ b) (a &&& b)
    rw [← e, e2] at h3
    lia
  lia
theorem band_nat (a b : Nat) : Builtin.bitAnd (a : Int) (b : Int) = ((a &&& b : Nat) : Int) := by
  rw [bitAnd_pp (Int.natCast_nonneg a) (Int.natCast_nonneg b), Int.toNat_natCast, Int.toNat_natCast]
theorem mul_pow_nat (a k : Nat) : (a : Int) * 2 ^ k = ((a * 2 ^ k : Nat) : Int) := by rw [Int.natCast_mul, cast_pow2]
theorem fdiv_pow_nat (a k : Nat) : (a : Int).fdiv (2 ^ k) = ((a / 2 ^ k : Nat) : Int) := by
  rw [fdiv_pos (Int.le_of_lt (pow2_pos k)), Int.natCast_ediv, cast_pow2]
theorem sm_nat {x n : Nat} (h : x < 2 ^ n) (hn : n ≤ 100000) : Sm (x : Int) := sm_of_lt (n := n) (by rw [Int.natAbs_natCast]; exact h) hn

end Mine
namespace Mine
section
variable {prog : Program} {w : World} {A : Around} {E : Value → Shared → Prop} {s : Shared} {h₀ : Heap} {L l : Addr} {m : Str → Option Value} {nw : Led}
theorem ints_at : ∀ {vs : List Value} {ns : List Int}, IntsAre vs ns → ∀ i, i < ns.length → ∃ t, vs[i]? = some (.int (ns.getD i 0) t)
  | _, _, .cons n t _, 0, _ => ⟨t, rfl⟩
  | _, _, .cons n t r, i + 1, h => by
    obtain ⟨t', e⟩ := ints_at r i (by simpa using h)
    exact ⟨t', by simpa using e⟩
theorem r_item {value slice : PySem.Expr} {vs : List Value} {ns : List Int} {kk : Nat} {k : Int} {u : Tok} {Q : Value → Shared → Prop} (N : News h₀ L s.heap nw) (hm : (l, listOf vs.toArray kk) ∈ nw) (hi : IntsAre vs ns)
    (h : ∀ t, Q (.int (ns.getD k.toNat 0) t) s) (ho : Ob (0 ≤ k ∧ k.toNat < ns.length)) (hz : Ob (k < 2 ^ 63))
    (hs : subscripted slice false (.ref l) (.int k u) = operate [.ref l, .int k u] (getItem (.ref l) (.int k u)) := by with_unfolding_all rfl) :
    wpAny (model prog w) A (subscriptTail value slice (.ref l) (.int k u)) Q E s := by
  obtain ⟨t, e⟩ := ints_at hi _ ho.2
  have hl : s.heap.IsList l vs.toArray := ⟨_, (N _ hm).1, rfl, kk, rfl⟩
  exact tail_any hl.typeIs slot_list_getitem.lookup (wpAny_getItem_list hl ho.1 hz (by simpa using e) (h t)) hs
theorem r_len {vs : List Value} {kk : Nat} {Q : Value → Shared → Prop} (N : News h₀ L s.heap nw) (hm : (l, listOf vs.toArray kk) ∈ nw)
    (h : Q (.int (vs.length : Int) (s.toks + 1)) { s with toks := s.toks + 1 + 1 }) (hz : Ob ((vs.length : Int) < 2 ^ 63)) : wpAny (model prog w) A (call (.builtin "len") [.ref l]) Q E s :=
  kst_len N hm rfl hz h
end
end Mine
namespace Mine
theorem bit_ask (x k : Nat) : Builtin.bitAnd ((x : Int).fdiv (2 ^ k)) 1 = if x.testBit k then 1 else 0 := by
  rw [fdiv_pow_nat, bit_one, Nat.testBit_eq_decide_div_mod_eq]
  by_cases h : x / 2 ^ k % 2 = 1
  · simp only [h, decide_true, if_true]; lia
  · simp only [h, decide_false, Bool.false_eq_true, if_false]; lia
theorem nat_at {vs : List Value} {xs : List Nat} {i : Nat} {v : Value} (hc : IntsAre vs (xs.map fun (x : Nat) => (x : Int))) (hv : vs[i]? = some v) (hi : i < vs.length) : ∃ t, v = .int ((xs.getD i 0 : Nat) : Int) t := by
  have hl : vs.length = xs.length := by rw [hc.length, List.length_map]
  obtain ⟨t, e⟩ := ints_at hc i (by rw [List.length_map]; lia)
  rw [hv] at e
  refine ⟨t, ?_⟩
  rw [Option.some.inj e]
  congr 1
  simp [List.getD_eq_getElem?_getD, (by lia : i < xs.length)]
theorem take_snoc {α : Type} (xs : List α) (d : α) {i : Nat} (h : i < xs.length) : xs.take (i + 1) = xs.take i ++ [xs.getD i d] := by
  rw [List.take_add_one]
  simp [List.getD_eq_getElem?_getD, h]
theorem ints_len {vs : List Value} {xs : List Nat} (hc : IntsAre vs (xs.map fun (x : Nat) => (x : Int))) : vs.length = xs.length := by rw [hc.length, List.length_map]
end Mine
namespace Mine
end Mine
namespace Mine
end Mine
end
section
open PySem PySem.W PyProof.Rows PySem.Calls PyProof.V PySem.Spec
namespace Mine
section
variable {prog : Program} {w : World} {A : Around} {E : Value → Shared → Prop} {s : Shared} {env : Env} {h₀ : Heap} {body : List Stmt} {Q : Flow → Shared → Prop}

noncomputable def LtEnd {σ : Type} (h₀ : Heap) (L : Addr) (G : σ → Led) (R : Led) (ps : σ → List (Str × Value)) (stored : List Str) (m₀ : Str → Option Value) (P : σ → Prop) (I : Addr) (it : Obj) (s₁ s₂ : Shared) : Prop :=
  ∃ (c' : σ) (h' : Heap) (tk : Nat) (m' : Str → Option Value) (news' : Led), s₂ = { s₁ with heap := h', toks := tk } ∧ Fr h₀ L h' m' ∧ News h₀ L h' news' ∧ (∀ p ∈ G c' ++ R, p ∈ news') ∧ (I, it) ∈ news' ∧ (∀ p ∈ G c', p.2 ≠ it) ∧
    (∀ p ∈ ps c', m' p.1 = some p.2) ∧ (∀ z, (∀ p ∈ ps c', z ≠ p.1) → stored.contains z = false → m' z = m₀ z) ∧ P c'
noncomputable def LtPost {σ : Type} (h₀ : Heap) (L : Addr) (G : σ → Led) (R : Led) (ps : σ → List (Str × Value)) (stored : List Str) (m₀ : Str → Option Value) (P : σ → Prop) (I : Addr) (it : Obj) (s₁ : Shared) (Q : Flow → Shared → Prop) (f : Flow) (s₂ : Shared) : Prop :=
  match f with
  | .ret v => Q (.ret v) s₂
  | .brk => Q .next s₂
  | _ => LtEnd h₀ L G R ps stored m₀ P I it s₁ s₂
noncomputable def itKind (o : Obj) : Prop := (o.cls = .type "range_iterator" ∨ o.cls = .type "list_iterator") ∧ ∃ a, o.data = .fields a
noncomputable def LoopG (prog : Program) (w : World) (A : Around) (env : Env) (target : PySem.Expr) (body : List Stmt) (Q : Flow → Shared → Prop) (E : Value → Shared → Prop) (it : Value) (s₂ : Shared) : Prop :=
  codeAny (model prog w) A (.forLoop target it body [] env) (fun r s' => match r with | .ok f => Q f s' | .error e => cameBackBy (model prog w) A env E e s') s₂
theorem For_G {target iter : PySem.Expr} {pos : Pos}
    (h : wpAny (model prog w) A (eval iter env) (fun xv s₁ => wpAny (model prog w) A (pyIter xv) (fun it s₂ => LoopG prog w A env target body Q E it s₂) E s₁) E s)
    (hs : ∀ x, foldedSetIterable iter env x = pure x := by intro _; rfl) :
    wpAny (model prog w) A (exec (.For target iter body [] pos) env) Q E s := wpAny_For h hs

theorem lt_walk {σ : Type} {I : Addr} {fp : List Addr} {n : Nat} {Pv : Nat → Value → Prop} {St : Nat → Heap → Prop} {m₀ : Str → Option Value} {target : PySem.Expr}
    (G : σ → Led) (R : Led) (ps : σ → List (Str × Value)) (stored : List Str) (P : Nat → σ → Prop) (c₀ : σ) (hE : PassesOwn (model prog w) A env E)
    (W : Walks prog w A I fp [I] n Pv St) (hIL : I ≠ env.locals) (hI : h₀.get? I = none) (hst : St 0 s.heap)
    (hgo : ∀ i (s' : Shared) v (Q' : Unit → Shared → Prop), St i s'.heap → Q' () s' → wpAny (model prog w) A (letOwnedTupleGo target (.ref I) v) Q' E s')
    (hSt : ∀ i h, St i h → ∃ it, h.get? I = some it ∧ itKind it)
    (hstay : ∀ i h h', St i h → News h₀ env.locals h R → News h₀ env.locals h' R → h'.get? I = h.get? I → St i h')
    (F : Fr h₀ env.locals s.heap m₀) (N : News h₀ env.locals s.heap (G c₀ ++ R)) (hnI : ∀ p ∈ G c₀ ++ R, p.1 ≠ I) (hk : ∀ p ∈ ps c₀, m₀ p.1 = some p.2) (hp : P 0 c₀)
    (turn : ∀ (c : σ) (i : Nat) v (u : Str → Option Value) (it : Obj) (s₁ : Shared), (∃ h tk, s₁ = { s with heap := h, toks := tk }) → i < n → Pv i v → (∀ p ∈ G c ++ R, p.1 ≠ I) → itKind it → P i c →
      Fr h₀ env.locals s₁.heap (lpM ps stored u m₀ c) → News h₀ env.locals s₁.heap ((I, it) :: (G c ++ R)) →
      wpAny (model prog w) A (assign target env v) (fun _ s₃ => wpAny (model prog w) A (execs body env) (LtPost h₀ env.locals G R ps stored m₀ (P (i + 1)) I it s₁ Q) E s₃) E s₁)
    (done : ∀ (c : σ) (u : Str → Option Value) h tk, P n c → Fr h₀ env.locals h (lpM ps stored u m₀ c) → News h₀ env.locals h (G c ++ R) → Q .next { s with heap := h, toks := tk }) :
    LoopG prog w A env target body Q E (.ref I) s := by
  have keepI : ∀ {h h₁ : Heap} {m : Str → Option Value} {nx : Led}, Fr h₀ env.locals h m → News h₀ env.locals h nx → (∀ p ∈ nx, p.1 ≠ I) → (∀ b o, b ∉ [I] → h.get? b = some o → h₁.get? b = some o) → Fr h₀ env.locals h₁ m ∧ News h₀ env.locals h₁ nx := by
    intro h h₁ m nx F N hne hk
    refine ⟨⟨F.ns.at' fun o e => hk _ o (fun hm => hIL (List.mem_singleton.mp hm).symm) e, fun b o e => hk b o (fun hm => ?_) (F.keep b o e), F.above⟩, fun p hp => ⟨hk _ _ (fun hm => hne p hp (List.mem_singleton.mp hm)) (N p hp).1, (N p hp).2⟩⟩
    rw [List.mem_singleton.mp hm, hI] at e; cases e
  refine codeAny_forLoop_any
    (fun k s' => ∃ h' tk m' i c, s' = { s with heap := h', toks := tk } ∧ St i h' ∧ Fr h₀ env.locals h' m' ∧ News h₀ env.locals h' (G c ++ R) ∧ (∀ p ∈ G c ++ R, p.1 ≠ I) ∧ (∀ p ∈ ps c, m' p.1 = some p.2) ∧ (∀ z, (∀ p ∈ ps c, z ≠ p.1) → stored.contains z = false → m' z = m₀ z) ∧ P i c ∧ i ≤ n ∧ k = n + 1 - i) ?_ (n + 1)
    ⟨s.heap, s.toks, m₀, 0, c₀, rfl, hst, F, N, hnI, hk, fun _ _ _ => rfl, hp, Nat.zero_le _, rfl⟩
  rintro k s' ⟨h', tk, m', i, c, rfl, hst', F', N', hne, h1, h2, hP, hi, rfl⟩
  by_cases hlt : i < n
  · refine W.item i _ _ _ hlt hst' fun v h₁ tk₁ hPv hst₁ hk₁ => ?_
    obtain ⟨F₁, N₁⟩ := keepI F' N' hne hk₁
    obtain ⟨it, hit, hik⟩ := hSt _ _ hst₁
    have N₂ : News h₀ env.locals h₁ ((I, it) :: (G c ++ R)) := fun p hp => by
      rcases List.mem_cons.mp hp with rfl | hp
      · exact ⟨hit, hIL, hI⟩
      · exact N₁ p hp
    refine wpAny_passesOwn hE (hgo (i + 1) _ v _ hst₁ ?_)
    refine wpAny_mono (turn c i v m' it { s with heap := h₁, toks := tk₁ } ⟨_, _, rfl⟩ hlt hPv hne hik hP (ksw_fr h1 h2 F₁) N₂) (fun _ s₃ h₃ => wpAny_mono h₃ (fun f s₄ h₄ => ?_) hE) hE
    have fin : LtEnd h₀ env.locals G R ps stored m₀ (P (i + 1)) I it { s with heap := h₁, toks := tk₁ } s₄ → ∃ m, m < n + 1 - i ∧ ∃ h' tk m' i' c, s₄ = { s with heap := h', toks := tk } ∧ St i' h' ∧ Fr h₀ env.locals h' m' ∧ News h₀ env.locals h' (G c ++ R) ∧ (∀ p ∈ G c ++ R, p.1 ≠ I) ∧ (∀ p ∈ ps c, m' p.1 = some p.2) ∧ (∀ z, (∀ p ∈ ps c, z ≠ p.1) → stored.contains z = false → m' z = m₀ z) ∧ P i' c ∧ i' ≤ n ∧ m = n + 1 - i' := by
      rintro ⟨c', h₅, tk₅, m₅, news₅, rfl, F₅, N₅, hn₅, hit₅, hc₅, hk₅, hr₅, hP₅⟩
      have hitg := (N₅ _ hit₅).1
      have hne' : ∀ p ∈ G c' ++ R, p.1 ≠ I := fun p hp e => by
        rcases List.mem_append.mp hp with hp' | hp'
        · have := (N₅ p (hn₅ p hp)).1
          rw [e, hitg] at this
          exact hc₅ p hp' (Option.some.inj this).symm
        · exact hne p (List.mem_append_right _ hp') e
      refine ⟨n + 1 - (i + 1), by lia, h₅, tk₅, m₅, i + 1, c', rfl, ?_, F₅, fun p hp => N₅ p (hn₅ p hp), hne', hk₅, hr₅, hP₅, hlt, rfl⟩
      exact hstay _ _ _ hst₁ (fun p hp => N₁ p (List.mem_append_right _ hp)) (fun p hp => N₅ p (hn₅ p (List.mem_append_right _ hp))) (by rw [hitg, hit])
    cases f with
    | next => exact fin h₄
    | cont => exact fin h₄
    | brk => exact h₄
    | ret v => exact h₄
  · have hin : i = n := by lia
    subst hin
    refine W.done _ _ _ hst' fun h₁ tk₁ hk₁ => wpAny_execs_nil ?_
    obtain ⟨F₁, N₁⟩ := keepI F' N' hne hk₁
    exact done c m' h₁ tk₁ hP (ksw_fr h1 h2 F₁) N₁

theorem lt_listL {σ : Type} {l : Addr} {vs : List Value} {nn : Nat} {m₀ : Str → Option Value} {target : PySem.Expr}
    (G : σ → Led) (R : Led) (ps : σ → List (Str × Value)) (stored : List Str) (P : Nat → σ → Prop) (c₀ : σ)
    (hh : A.handled = none) (hl : (l, listOf vs.toArray nn) ∈ R) (F : Fr h₀ env.locals s.heap m₀) (N : News h₀ env.locals s.heap (G c₀ ++ R)) (hk : ∀ p ∈ ps c₀, m₀ p.1 = some p.2) (hp : P 0 c₀)
    (turn : ∀ (c : σ) (i : Nat) v (u : Str → Option Value) (I : Addr) (it : Obj) (s₁ : Shared), (∃ h tk, s₁ = { s with heap := h, toks := tk }) → i < vs.length → vs[i]? = some v → (∀ p ∈ G c ++ R, p.1 ≠ I) → itKind it → P i c →
      Fr h₀ env.locals s₁.heap (lpM ps stored u m₀ c) → News h₀ env.locals s₁.heap ((I, it) :: (G c ++ R)) →
      wpAny (model prog w) A (assign target env v) (fun _ s₃ => wpAny (model prog w) A (execs body env) (LtPost h₀ env.locals G R ps stored m₀ (P (i + 1)) I it s₁ Q) E s₃) E s₁)
    (done : ∀ (c : σ) (u : Str → Option Value) h tk, P vs.length c → Fr h₀ env.locals h (lpM ps stored u m₀ c) → News h₀ env.locals h (G c ++ R) → Q .next { s with heap := h, toks := tk })
    (hE : PassesOwn (model prog w) A env E := by passes_own) :
    wpAny (model prog w) A (pyIter (.ref l)) (fun it s₂ => LoopG prog w A env target body Q E it s₂) E s := by
  have hol : s.heap.get? l = some (listOf vs.toArray nn) := (N _ (List.mem_append_right _ hl)).1
  have hls : s.heap.IsList l vs.toArray := ⟨_, hol, rfl, nn, rfl⟩
  have hne : l ≠ s.heap.objs.size := Nat.ne_of_lt (Heap.lt_size hol)
  refine wpAny_pyIter_list hls ?_
  have W := Walks.list (prog := prog) (w := w) hh s.heap.objs.size l hne vs.toArray
  have hlen : vs.toArray.size = vs.length := by simp
  rw [hlen] at W
  refine lt_walk G R ps stored P c₀ hE W (fun e => absurd F.ns.lt (by rw [← e]; exact Nat.lt_irrefl _)) (next_is_new F) ⟨⟨_, Heap.get?_push_size _ rfl, rfl, rfl⟩, hls.at fun o e => Heap.get?_push_of_some _ e⟩ (fun i s' v Q' st hQ' => letGo_listiter st.1 hQ') ?_ ?_ (F.push _)
    (fun p hp => ⟨Heap.get?_push_of_some _ (N p hp).1, (N p hp).2⟩) ?_ hk hp ?_ ?_
  · rintro i h ⟨⟨o, ho, hc, hd⟩, _⟩
    exact ⟨o, ho, .inr hc, _, hd⟩
  · rintro i h h' ⟨⟨o, ho, hc⟩, _⟩ _ N2 e
    exact ⟨⟨o, by rw [e]; exact ho, hc⟩, ⟨_, (N2 _ hl).1, rfl, nn, rfl⟩⟩
  · intro p hp e
    exact absurd (Heap.lt_size (N p hp).1) (e ▸ Nat.lt_irrefl _)
  · rintro c i v u it s₁ hs₁ hi hv hne' hc hP F' N'
    exact turn c i v u _ it s₁ hs₁ hi (by simpa using hv) hne' hc hP F' N'
  · intro c u h tk hP F' N'
    exact done c u h tk hP F' N'

theorem lt_range {σ : Type} {r : Addr} {a₀ b₀ : Int} {t₀ u₀ v₀ : Tok} {n : Nat} {m₀ : Str → Option Value} {y : Str} {py : Pos}
    (G : σ → Led) (R : Led) (ps : σ → List (Str × Value)) (stored : List Str) (P : Nat → σ → Prop) (c₀ : σ)
    (hh : A.handled = none) (hr : IsRange s.heap r a₀ b₀ 1 t₀ u₀ v₀) (hsmall : Builtin.Range.small a₀ b₀ 1 = true) (hn : Builtin.Range.rangeSize a₀ b₀ 1 = (n : Int)) (F : Fr h₀ env.locals s.heap m₀) (N : News h₀ env.locals s.heap (G c₀ ++ R)) (hk : ∀ p ∈ ps c₀, m₀ p.1 = some p.2) (hp : P 0 c₀)
    (turn : ∀ (c : σ) (i : Nat) t (u : Str → Option Value) (I : Addr) (it : Obj) (s₁ : Shared), (∃ h tk, s₁ = { s with heap := h, toks := tk }) → i < n → (∀ p ∈ G c ++ R, p.1 ≠ I) → itKind it → P i c →
      Fr h₀ env.locals s₁.heap (lpM ps stored u m₀ c) → News h₀ env.locals s₁.heap ((I, it) :: (G c ++ R)) →
      wpAny (model prog w) A (assign (.Name y py) env (.int (a₀ + (i : Int)) t)) (fun _ s₃ => wpAny (model prog w) A (execs body env) (LtPost h₀ env.locals G R ps stored m₀ (P (i + 1)) I it s₁ Q) E s₃) E s₁)
    (done : ∀ (c : σ) (u : Str → Option Value) h tk, P n c → Fr h₀ env.locals h (lpM ps stored u m₀ c) → News h₀ env.locals h (G c ++ R) → Q .next { s with heap := h, toks := tk })
    (hE : PassesOwn (model prog w) A env E := by passes_own) :
    wpAny (model prog w) A (pyIter (.ref r)) (fun it s₂ => LoopG prog w A env (.Name y py) body Q E it s₂) E s := by
  refine wpAny_pyIter_range hr hsmall ?_
  have W : Walks prog w A s.heap.objs.size [s.heap.objs.size] [s.heap.objs.size] n (fun i v => i < n ∧ ∃ t, v = .int (a₀ + i * 1) t)
      (fun i h => IsRangeIter h s.heap.objs.size (a₀ + (i : Nat) * 1) ((n : Int) - (i : Nat)) 1) := (Walks.range hh _ a₀ 1 n).bound
  refine lt_walk G R ps stored P c₀ hE W (fun e => absurd F.ns.lt (by rw [← e]; exact Nat.lt_irrefl _)) (next_is_new F) (by show IsRangeIter _ _ _ _ _; rw [hn]; simpa using Heap.get?_push_size _ rfl) (fun i s' v Q' _ hQ' => wpAny_pure hQ') ?_ ?_ (F.push _)
    (fun p hp => ⟨Heap.get?_push_of_some _ (N p hp).1, (N p hp).2⟩) ?_ hk hp ?_ ?_
  · intro i h st
    exact ⟨_, st, .inl rfl, _, rfl⟩
  · intro i h h' st _ _ e
    show h'.get? _ = _
    rw [e]; exact st
  · intro p hp e
    exact absurd (Heap.lt_size (N p hp).1) (e ▸ Nat.lt_irrefl _)
  · rintro c i v u it s₁ hs₁ hi ⟨_, t, rfl⟩ hne hc hP F' N'
    have e1 : a₀ + (i : Int) * 1 = a₀ + (i : Int) := by lia
    rw [e1]
    exact turn c i t u _ it s₁ hs₁ hi hne hc hP F' N'
  · intro c u h tk hP F' N'
    exact done c u h tk hP F' N'
end
section
variable {σ : Type} {h₀ h' : Heap} {L : Addr} {G : σ → Led} {R : Led} {ps : σ → List (Str × Value)} {stored : List Str} {m₀ m' : Str → Option Value} {P : σ → Prop} {I : Addr} {it : Obj} {s₁ : Shared} {tk : Nat} {news' : Led}
theorem LtEnd.intro (c' : σ) (F : Fr h₀ L h' m') (N : News h₀ L h' news') (hn : ∀ p ∈ G c' ++ R, p ∈ news') (hit : (I, it) ∈ news') (hc : ∀ p ∈ G c', p.2 ≠ it)
    (hk : ∀ p ∈ ps c', m' p.1 = some p.2) (hr : ∀ z, (∀ p ∈ ps c', z ≠ p.1) → stored.contains z = false → m' z = m₀ z) (hp : P c') : LtEnd h₀ L G R ps stored m₀ P I it s₁ { s₁ with heap := h', toks := tk } :=
  ⟨c', h', tk, m', news', rfl, F, N, hn, hit, hc, hk, hr, hp⟩
end
theorem ne_it_list {o it : Obj} (h : itKind it) (h1 : o.cls = .type "list") : o ≠ it := by
  rintro rfl
  rcases h.1 with e | e <;> (rw [h1] at e; exact absurd (Value.type.inj e) (by decide))
theorem ne_it_tuple {o it : Obj} (h : itKind it) (h1 : o.cls = .type "tuple") : o ≠ it := by
  rintro rfl
  rcases h.1 with e | e <;> (rw [h1] at e; exact absurd (Value.type.inj e) (by decide))
theorem ne_it_cell {o it : Obj} {v : Option Value} (h : itKind it) (h1 : o.data = .cell v) : o ≠ it := by
  rintro rfl
  obtain ⟨a, e⟩ := h.2
  rw [h1] at e; cases e
end Mine
end
section
open PySem PySem.W PyProof.Rows
namespace Mine
/-! lists of pairs on the ledger -/
structure TT where
  p : Addr
  a : Int
  t : Tok
  b : Int
  u : Tok
noncomputable abbrev TT.e (x : TT) : Addr × Obj := (x.p, { cls := .type "tuple", data := .seq #[.int x.a x.t, .int x.b x.u] })
noncomputable abbrev TT.r (x : TT) : Value := .ref x.p
noncomputable abbrev TT.v (x : TT) : Int × Int := (x.a, x.b)
theorem snoc_ind {α : Type} {P : List α → Prop} (h0 : P []) (h1 : ∀ xs x, P xs → P (xs ++ [x])) (xs : List α) : P xs := by
  have : ∀ n (xs : List α), xs.length = n → P xs := by
    intro n
    induction n with
    | zero => intro xs h; rw [List.length_eq_zero_iff.mp h]; exact h0
    | succ n ih =>
      intro xs h
      have hne : xs ≠ [] := by intro e; rw [e] at h; exact absurd h (by simp)
      rw [← List.dropLast_concat_getLast hne]
      exact h1 _ _ (ih _ (by rw [List.length_dropLast]; omega))
  exact this _ xs rfl
theorem apart {h₀ h : Heap} {L : Addr} {T : List (Addr × Obj)} (N : News h₀ L h T) {a b : Addr} {o o' : Obj} (h1 : (a, o) ∈ T) (h2 : (b, o') ∈ T) (h3 : o ≠ o') : (a : Nat) ≠ b := by
  intro e
  have e' : a = b := e
  subst e'
  have h4 := (N _ h1).1
  have h5 := (N _ h2).1
  rw [h4] at h5
  exact h3 (Option.some.inj h5)
end Mine
namespace Mine
theorem cell_ne_list {o : Obj} {v : Option Value} {a : Array Value} {k : Nat} (h : o.data = .cell v) : listOf a k ≠ o := by
  rintro rfl; cases h
end Mine
namespace Mine
section
variable {prog : Program} {w : World} {A : Around} {E : Value → Shared → Prop} {s : Shared} {h₀ : Heap} {L a b : Addr} {m : Str → Option Value} {nw : List (Addr × Obj)} {Q : Value → Shared → Prop} {xs ys : List Value} {k₁ k₂ : Nat}
theorem r_addl (F : Fr h₀ L s.heap m) (N : News h₀ L s.heap nw) (ha : (a, listOf xs.toArray k₁) ∈ nw) (hb : (b, listOf ys.toArray k₂) ∈ nw)
    (h : ∀ D h', Fr h₀ L h' m → News h₀ L h' ((D, listOf (xs ++ ys).toArray 0) :: nw) → (∀ p ∈ nw, p.1 < D) → Q (.ref D) { s with heap := h' })
    (hz : Ob (xs.length + ys.length ≤ sizeLine)) : wpAny (model prog w) A (binaryOp .Add (.ref a) (.ref b)) Q E s :=
  kmk_add_lit F N ⟨_, (N _ ha).1, rfl, k₁, rfl⟩ ⟨_, (N _ hb).1, rfl, k₂, rfl⟩ rfl h hz
end
end Mine
namespace Mine
end Mine
end
section
open PySem PySem.W PyProof.Rows
namespace Mine
/-! the plain numbers of the second law -/
noncomputable def everyN (m s : Nat) : Nat := (2 ^ (m * s) - 1) / (2 ^ s - 1)
theorem every_dvd (s : Nat) : ∀ m, (2 ^ s - 1) ∣ (2 ^ (m * s) - 1)
  | 0 => by simp
  | m + 1 => by
    have e : 2 ^ ((m + 1) * s) - 1 = 2 ^ s * (2 ^ (m * s) - 1) + (2 ^ s - 1) := by
      rw [Nat.succ_mul, Nat.pow_add]
      have h1 := Nat.two_pow_pos (m * s)
      have h2 := Nat.two_pow_pos s
      generalize 2 ^ (m * s) = a at h1 ⊢
      generalize 2 ^ s = b at h2 ⊢
      obtain ⟨a', rfl⟩ : ∃ a', a = a' + 1 := ⟨a - 1, by lia⟩
      obtain ⟨b', rfl⟩ : ∃ b', b = b' + 1 := ⟨b - 1, by lia⟩
      simp only [Nat.add_mul, Nat.mul_add, Nat.add_sub_cancel, Nat.mul_one, Nat.one_mul, Nat.mul_comm a' b']
      lia
    rw [e]
    exact Nat.dvd_add (Nat.dvd_trans (every_dvd s m) (Nat.dvd_mul_left _ _)) (Nat.dvd_refl _)
theorem every_succ {s : Nat} (hs : 1 ≤ s) (m : Nat) : everyN (m + 1) s = 1 + 2 ^ s * everyN m s := by
  have h0 : 0 < 2 ^ s - 1 := by
    have : 2 ^ 1 ≤ 2 ^ s := Nat.pow_le_pow_right (by decide) hs
    lia
  obtain ⟨d, hd⟩ := every_dvd s m
  have e : 2 ^ ((m + 1) * s) - 1 = 2 ^ s * (2 ^ (m * s) - 1) + (2 ^ s - 1) := by
    rw [Nat.succ_mul, Nat.pow_add]
    have h1 := Nat.two_pow_pos (m * s)
    have h2 := Nat.two_pow_pos s
    generalize 2 ^ (m * s) = a at h1 ⊢
    generalize 2 ^ s = b at h2 ⊢
    obtain ⟨a', rfl⟩ : ∃ a', a = a' + 1 := ⟨a - 1, by lia⟩
    obtain ⟨b', rfl⟩ : ∃ b', b = b' + 1 := ⟨b - 1, by lia⟩
    simp only [Nat.add_mul, Nat.mul_add, Nat.add_sub_cancel, Nat.mul_one, Nat.one_mul, Nat.mul_comm a' b']
    lia
  unfold everyN
  rw [e, hd, Nat.mul_div_cancel_left _ h0]
  have e2 : 2 ^ s * ((2 ^ s - 1) * d) + (2 ^ s - 1) = (2 ^ s - 1) * (1 + 2 ^ s * d) := by
    rw [Nat.mul_add, Nat.mul_one, Nat.mul_left_comm, Nat.add_comm]
  rw [e2, Nat.mul_div_cancel_left _ h0]
theorem every_zero (s : Nat) : everyN 0 s = 0 := by unfold everyN; simp
structure EvPre (m s : Nat) (common : Int) : Prop where
  s1 : 1 ≤ s
  sl : s ≤ 2500
  m8 : m ≤ 8
  lo : 2 ^ (m * s) ≤ common
  hi : common < 2 ^ 20000
section
variable {m s : Nat} {common : Int}
theorem ev_exp : ((m : Int) * (s : Int)).toNat = m * s := by rw [← Int.natCast_mul, Int.toNat_natCast]
theorem EvPre.ms (H : EvPre m s common) : m * s ≤ 20000 := Nat.le_trans (Nat.mul_le_mul H.m8 H.sl) (by decide)
theorem EvPre.o1 (H : EvPre m s common) : 0 ≤ (m : Int) * (s : Int) ∧ (m : Int) * (s : Int) ≤ 100000 ∧ Sm 1 := by
  have := H.ms
  rw [← Int.natCast_mul]
  generalize m * s = z at this ⊢
  exact ⟨by lia, by lia, sm_one⟩
theorem EvPre.o2 (H : EvPre m s common) : 0 ≤ (s : Int) ∧ (s : Int) ≤ 100000 ∧ Sm 1 := by
  have := H.sl
  exact ⟨by lia, by lia, sm_one⟩
theorem EvPre.o3 (H : EvPre m s common) : Sm (m : Int) ∧ Sm (s : Int) := by
  have := H.sl
  have := H.m8
  exact ⟨sm_of_lt (n := 4) (by rw [show (2 : Nat) ^ 4 = 16 by decide]; lia) (by decide), sm_of_lt (n := 12) (by rw [show (2 : Nat) ^ 12 = 4096 by decide]; lia) (by decide)⟩
theorem ev_top : (1 : Int) * 2 ^ ((m : Int) * (s : Int)).toNat - 1 = ((2 ^ (m * s) - 1 : Nat) : Int) := by
  rw [ev_exp, Int.one_mul, Int.natCast_sub (Nat.two_pow_pos _), cast_pow2]; rfl
theorem ev_bot : (1 : Int) * 2 ^ ((s : Nat) : Int).toNat - 1 = ((2 ^ s - 1 : Nat) : Int) := by
  rw [Int.toNat_natCast, Int.one_mul, Int.natCast_sub (Nat.two_pow_pos _), cast_pow2]; rfl
theorem EvPre.div (H : EvPre m s common) : DivPre (1 * 2 ^ ((m : Int) * (s : Int)).toNat - 1) (1 * 2 ^ ((s : Nat) : Int).toNat - 1) common := by
  have h1 := pow2_pos (m * s)
  have h2 : (2 : Int) ^ 1 ≤ 2 ^ s := pow2_le H.s1
  have h3 := H.lo
  have h4 : (2 : Int) ^ s ≤ 2 ^ 4300 := pow2_le (by have := H.sl; lia)
  have h5 : common * 1 ≤ common * (1 * 2 ^ s - 1) := Int.mul_le_mul_of_nonneg_left (by lia) (by lia)
  rw [ev_exp, Int.toNat_natCast]
  exact ⟨by lia, by lia, by lia, by lia, by lia, H.hi⟩
theorem EvPre.quo (_H : EvPre m s common) : (1 * 2 ^ ((m : Int) * (s : Int)).toNat - 1) / (1 * 2 ^ ((s : Nat) : Int).toNat - 1) = ((everyN m s : Nat) : Int) := by
  rw [ev_top, ev_bot]
  unfold everyN
  rw [Int.natCast_ediv]
theorem EvPre.rest (_H : EvPre m s common) : ((1 : Int) * 2 ^ ((m : Int) * (s : Int)).toNat - 1) % (1 * 2 ^ ((s : Nat) : Int).toNat - 1) = 0 := by
  rw [ev_top, ev_bot, ← Int.natCast_emod, Nat.mod_eq_zero_of_dvd (every_dvd s m)]; rfl
end
end Mine
end
section
open PySem PySem.W PyProof.Rows
set_option maxRecDepth 100000
namespace Mine
local macro_rules | `(tactic| walk_at $s:str) => `(tactic| k_extra $s)

set_option maxHeartbeats 8000000 in
theorem c_every (w : World) (mean : ExcName → Option Value) (mg mb : Str → Option Value) (news : List (Addr × Obj)) (mm ss : Nat) (common : Int) (t u v : Tok) (H : Ob (EvPre mm ss common)) :
   Cl w mean mg mb 77 12 news [.int mm t, .int ss u, .int common v] (RetI news (everyN mm ss : Nat)) := by
  unfold Cl; k_fill
  intro dp un gd cn cs a9 ccd cl outer A₀ base h₀ L m s Q E hB hF hX hN hTop hk hdp hun hret
  k_with_none
  k_with "binaryOp LShift int int" => (k_here; with_reducible refine r_lsh ?_ ?_)
  k_with "inplaceOp LShift int int" => (k_here; with_reducible refine r_ilsh ?_ ?_)
  k_with "binaryOp Mult int int" => (k_here; with_reducible refine r_mul ?_ ?_)
  k_with "binaryOp FloorDiv int int" => (k_here; with_reducible refine r_fdiv ?_ ?_)
  k_with "binaryOp Mod int int" => (k_here; with_reducible refine r_mod ?_ ?_)
  k_with "binaryOp RShift int int" => (k_here; with_reducible refine r_rsh ?_ ?_)
  k_with "inplaceOp RShift int int" => (k_here; with_reducible refine r_irsh ?_ ?_)
  k_with "call builtin:divmod" => (k_here; k_dflt (refine' r_divmod ?k1 ?k2 ?_ ?_; (case k1 => k_asm); (case k2 => k_asm)); intro p9 h9 F9 N9 l9; (try k_lt l9))
  k_with "call builtin:list.append" => (k_here; k_dflt (refine' r_append ?k1 ?k2 ?k3 ?_ ?_; (case k1 => k_asm); (case k2 => k_asm); (case k3 => k_upd)); intro h' F' N'; (try k_sweep))
  k_with "call ref" => (k_here; k_extra "mycall")
  k_with "mycall" => first | (refine' c_isub _ _ _ _ _ _ _ _ _ _ _ _ _ _ _ _ _ _ _ _ _ _ _ _ _ _ ?k1 ?k2 ?k3 ?k4 ?k5 ?kK ?kd ?ku ?_; (case k1 => k_asm); (case k2 => k_asm); (case k3 => k_asm); (case k4 => k_asm); (case k5 => k_asm); (case kK => exact rfl); (case kd => cb_room); (case ku => cb_units); intro t9 h9 tk9 F9 N9) | (refine' c_ilshift _ _ _ _ _ _ _ _ _ ?_ _ _ _ _ _ _ _ _ _ _ _ _ _ _ _ _ _ ?k1 ?k2 ?k3 ?k4 ?k5 ?kK ?kd ?ku ?_; (case k1 => k_asm); (case k2 => k_asm); (case k3 => k_asm); (case k4 => k_asm); (case k5 => k_asm); (case kK => exact rfl); (case kd => cb_room); (case ku => cb_units); rotate_left; intro t9 h9 tk9 F9 N9) | (refine' c_divide _ _ _ _ _ _ _ _ _ _ _ ?_ _ _ _ _ _ _ _ _ _ _ _ _ _ _ _ _ _ ?k1 ?k2 ?k3 ?k4 ?k5 ?kK ?kd ?ku ?_; (case k1 => k_asm); (case k2 => k_asm); (case k3 => k_asm); (case k4 => k_asm); (case k5 => k_asm); (case kK => exact rfl); (case kd => cb_room); (case ku => cb_units); rotate_left; intro p9 t9 u9 h9 tk9 F9 N9 l9; (try k_lt l9))
  refine wpAny_call ?_
  k_dflt cell_enter
  k_steps
  all_goals first
    | exact H.o1
    | exact H.o2
    | exact H.o3
    | exact H.div
    | exact absurd H.rest (by assumption)
    | (rw [RetI, ← H.quo] at hret; (refine' hret _ _ _ ?e1 (cb_drop ?e2 ?e3); (case e1 => k_asm); (case e2 => k_asm); (case e3 => kcj_all)))
    | skip
theorem d_every (w : World) (mean : ExcName → Option Value) (mg mb : Str → Option Value) (news : List (Addr × Obj)) (M S : Int) (common : Int) (t u v : Tok) (H : Ob (0 ≤ M ∧ 0 ≤ S ∧ EvPre M.toNat S.toNat common)) :
   Cl w mean mg mb 77 12 news [.int M t, .int S u, .int common v] (RetI news (everyN M.toNat S.toNat : Nat)) := by
  have h := c_every w mean mg mb news M.toNat S.toNat common t u v H.2.2
  rw [Int.toNat_of_nonneg H.1, Int.toNat_of_nonneg H.2.1] at h
  exact h
end Mine
end
section
open PySem PySem.W PyProof.Rows PySem.Calls PySem.Spec
open PyProof.Rows.LCg (NsObj lst Off3 Off1 SrcAt CompEnd CompRest FinE)
open PyProof.Rows.LCp (CompRestP SrcLP)
namespace Mine
section
variable {prog : Program} {w : World} {A : Around} {E : Value → Shared → Prop} {s : Shared} {h₀ : Heap} {L : Addr} {m : Str → Option Value} {env : Env}
noncomputable def CPEnd (h₀ : Heap) (L : Addr) (m : Str → Option Value) (led : List (Addr × Obj)) (a b : Int) (s₁ : Shared) (y : Value) (s₂ : Shared) : Prop :=
  ∃ (x : TT) (h' : Heap) (tk' : Nat), y = x.r ∧ x.a = a ∧ x.b = b ∧ s₂ = { s₁ with heap := h', toks := tk' } ∧ Fr h₀ L h' m ∧ News h₀ L h' (x.e :: led) ∧ ∀ q ∈ led, q.1 < x.p
theorem CPEnd.intro {led : List (Addr × Obj)} {a b a' b' : Int} {p : Addr} {t u : Tok} {s₁ : Shared} {h' : Heap} {tk' : Nat}
    (F : Fr h₀ L h' m) (N : News h₀ L h' ((p, { cls := .type "tuple", data := .seq #[.int a' t, .int b' u] }) :: led)) (l : ∀ q ∈ led, q.1 < p) (ha : a' = a) (hb : b' = b) : CPEnd h₀ L m led a b s₁ (.ref p) { s₁ with heap := h', toks := tk' } :=
  ⟨⟨p, a', t, b', u⟩, h', tk', rfl, ha, hb, rfl, F, N, l⟩
end
end Mine
end
section
open PySem PySem.W PyProof.Rows PySem.Calls PySem.Spec
open PyProof.Rows.LCg (NsObj lst Off3 Off1 SrcAt CompEnd CompRest FinE CompSrc)
namespace Mine
section
variable {prog : Program} {w : World} {A : Around} {E : Value → Shared → Prop} {s : Shared} {h₀ : Heap} {L : Addr} {m : Str → Option Value} {env : Env}
noncomputable def CIEnd (h₀ : Heap) (L : Addr) (m : Str → Option Value) (led : List (Addr × Obj)) (a : Int) (s₁ : Shared) (y : Value) (s₂ : Shared) : Prop :=
  ∃ (t : Tok) (h' : Heap) (tk' : Nat), y = .int a t ∧ s₂ = { s₁ with heap := h', toks := tk' } ∧ Fr h₀ L h' m ∧ News h₀ L h' led
theorem CIEnd.intro {led led' : List (Addr × Obj)} {a a' : Int} {t : Tok} {s₁ : Shared} {h' : Heap} {tk' : Nat}
    (F : Fr h₀ L h' m) (N : News h₀ L h' led') (hs : ∀ p ∈ led, p ∈ led') (ha : Ob (a' = a)) : CIEnd h₀ L m led a s₁ (.int a' t) { s₁ with heap := h', toks := tk' } :=
  ⟨t, h', tk', by rw [show a' = a from ha], rfl, F, fun p hp => N p (hs p hp)⟩
theorem lci_ind {elt : Expr} {x : Str} {scope : Scope} {cl : List (Str × Addr)} {S : List (Addr × Obj) → Prop} {P : Nat → Value → Prop} {Fin : List Value → List (Addr × Obj) → Prop} {nw : List (Addr × Obj)} (n : Nat) (f : Nat → Int)
    (hS : S nw)
    (turn : ∀ i v ys I oI C oC D m₂ (s₁ : Shared) (E' : Value → Shared → Prop), (∃ h tk, s₁ = { s with heap := h, toks := tk }) → i < n → P i v → NsObj oC m₂ → m₂ x = some v → Fr h₀ L s₁.heap m → News h₀ L s₁.heap ((I, oI) :: (C, oC) :: (D, lst ys) :: nw) →
      wpAny (model prog w) A (eval elt (compEnvC scope cl C env)) (CIEnd h₀ L m ((I, oI) :: (C, oC) :: (D, lst ys) :: nw) (f i) s₁) E' s₁)
    (fin : ∀ ys, IntsAre ys ((List.range n).map f) → Fin ys nw) :
    ∀ (r i : Nat) (ys : List Value), r + i = n → IntsAre ys ((List.range i).map f) → CompRest prog w A h₀ L m env elt x scope cl s S P Fin r i ys nw
  | 0, i, ys, hr, hy => by
    have e : i = n := by lia
    subst e
    exact CompRest.zero (fin ys hy)
  | r + 1, i, ys, hr, hy => by
    refine CompRest.succ fun v I oI C oC D m₂ h tk E' hP hC hx F N off ne => ?_
    refine wpAny_mono (turn i v ys I oI C oC D m₂ { s with heap := h, toks := tk } E' ⟨_, _, rfl⟩ (by lia) hP hC hx F N) (fun z s₂ hz => ?_) fun _ _ e => e
    obtain ⟨t, h', tk', rfl, rfl, F', N'⟩ := hz
    refine CompEnd.intro F' N' nw (fun p hp => hp) off hS ?_
    refine lci_ind n f hS turn fin r (i + 1) _ (by lia) ?_
    rw [List.range_succ, List.map_append]
    exact IntsAre.append hy (.cons _ _ .nil)
end
end Mine
namespace Mine
theorem tt_at {tl : List TT} {i : Nat} {v : Value} (h : (tl.map TT.r)[i]? = some v) : ∃ y, tl[i]? = some y ∧ y ∈ tl ∧ v = y.r := by
  rw [List.getElem?_map] at h
  cases e : tl[i]? with
  | none => rw [e] at h; cases h
  | some y => rw [e] at h; exact ⟨y, rfl, List.mem_of_getElem? e, (Option.some.inj h).symm⟩
end Mine
namespace Mine
theorem same_of {ps : List (Str × Value)} {stored : List Str} {m' m₀ : Str → Option Value} (x : Str) (h : ∀ z, z ≠ x → (∀ p ∈ ps, z ≠ p.1) → stored.contains z = false → m' z = m₀ z)
    (hx : (∃ v, (x, v) ∈ ps) ∨ stored.contains x = true) : ∀ z, (∀ p ∈ ps, z ≠ p.1) → stored.contains z = false → m' z = m₀ z := by
  intro z h1 h2
  refine h z ?_ h1 h2
  rintro rfl
  rcases hx with ⟨v, hv⟩ | hx
  · exact h1 _ hv rfl
  · rw [hx] at h2; cases h2
end Mine
namespace Mine
section
variable {prog : Program} {w : World} {A : Around} {E : Value → Shared → Prop} {s : Shared} {h₀ : Heap} {L t : Addr} {m : Str → Option Value} {env : Env} {nw : List (Addr × Obj)} {Q : Unit → Shared → Prop} {a b : Value} {k : Nat}
theorem r_unpair {x y : Str} {px py pos : Pos} {x1} (hh : A.handled = none) (F : Fr h₀ L s.heap m) (N : News h₀ L s.heap nw) (ht : (t, ({ cls := .type "tuple", data := .seq #[a, b] k } : Obj)) ∈ nw)
    (h : ∀ h', Fr h₀ L h' m → News h₀ L h' nw → wpAny (model prog w) A (storeName env x a) (fun _ s₂ => wpAny (model prog w) A (storeName env y b) Q E s₂) E { s with heap := h' }) :
    wpAny (model prog w) A (assign (.Tuple [.Name x px, .Name y py] x1 pos) env (.ref t)) Q E s := by
  refine assign_Tuple_tuple hh ⟨_, (N _ ht).1, rfl, k, rfl⟩ rfl rfl fun h' he => ?_
  have he' : ∀ b o, s.heap.get? b = some o → h'.get? b = some o := fun b o e => he b o (Nat.ne_of_lt (Heap.lt_size e)) e
  refine assignInOrder_cons (wpAny_assign_Name ?_)
  refine wpAny_mono (h h' (F.keeps he') (fun p hp => ⟨he' _ _ (N p hp).1, (N p hp).2⟩)) (fun _ s₂ h₂ => ?_) fun _ _ e => e
  exact assignInOrder_cons (wpAny_assign_Name (wpAny_mono h₂ (fun _ s₃ h₃ => assignInOrder_nil h₃) fun _ _ e => e))
end
end Mine
namespace Mine
theorem sm_pow2 {n : Nat} (h : n ≤ 99999) : Sm ((2 : Int) ^ n) :=
  sm_nn (n := n + 1) (Int.le_of_lt (pow2_pos n)) (by have := pow2_pos n; rw [Int.pow_succ]; lia) (by lia)
theorem due_sz {n : Nat} (h : n ≤ 1000) : n ≤ sizeLine := Nat.le_trans h (Nat.le_of_ble_eq_true rfl)
end Mine
end
section
open PySem PySem.W PyProof.Rows
namespace Mine
theorem pylong_small {a b : Int} (hb : b.natAbs < 2 ^ 60) : Builtin.divisionGoesByPylong a b = false := by
  unfold Builtin.divisionGoesByPylong
  dsimp only
  by_cases h0 : b = 0
  · subst h0; simp
  · have h1 : b.natAbs ≠ 0 := fun h => h0 (Int.natAbs_eq_zero.mp h)
    have h2 : b.natAbs.log2 < 60 := (Nat.log2_lt h1).mpr hb
    have h3 : (b == 0) = false := by simpa using h0
    simp only [h3, Bool.false_eq_true, if_false]
    split <;> simp <;> lia
end Mine
namespace Mine
end Mine
namespace Mine
end Mine
end
section
open PySem PySem.W PyProof.Rows
namespace Mine
end Mine
end
section
open PySem PySem.W PyProof.Rows PySem.Calls PySem.Spec
set_option maxRecDepth 100000
namespace Mine
section
variable {prog : Program} {w : World} {A : Around} {E : Value → Shared → Prop} {s : Shared} {a : Addr} {o : Obj} {ks : List Int} {k : Int} {u : Tok}
end
end Mine
end
section
open PySem PySem.W PyProof.Rows PySem.Calls PySem.Spec
set_option maxRecDepth 100000
namespace Mine
section
variable {prog : Program} {w : World} {A : Around} {E : Value → Shared → Prop} {s : Shared} {a b : Addr} {oa ob : Obj} {ks : List Int} {k : Int}
end
end Mine
end
section
open PySem PySem.W PyProof.Rows PySem.Calls PySem.Spec
namespace Mine
section
variable {prog : Program} {w : World} {A : Around} {E : Value → Shared → Prop} {s : Shared}
end
end Mine
end
section
open PySem PySem.W PyProof.Rows PySem.Calls PySem.Spec
set_option maxRecDepth 100000
namespace Mine
section
variable {prog : Program} {w : World} {A : Around} {E : Value → Shared → Prop} {s : Shared} {I a : Addr} {oa : Obj} {es : Array (Int × Value)} {ep : Nat} {t : SetTable}
end
end Mine
end
section
open PySem PySem.W PyProof.Rows PySem.Calls PySem.Spec
set_option maxRecDepth 100000
namespace Mine
section
variable {prog : Program} {w : World} {A : Around} {E : Value → Shared → Prop} {s : Shared} {I a : Addr} {oa : Obj} {ks : List Int}
end
end Mine
end
section
open PySem PySem.W PyProof.Rows PySem.Calls PySem.Spec
set_option maxRecDepth 100000
namespace Mine
section
variable {prog : Program} {w : World} {A : Around} {E : Value → Shared → Prop} {s : Shared} {I a : Addr} {oa : Obj} {ks : List Int}
end
end Mine
end
section
open PySem PySem.W PyProof.Rows
namespace Mine
/-! parities -/
noncomputable def par {α : Type} (f : α → Bool) (l : List α) : Bool := l.foldl (fun b x => b ^^ f x) false
/-! the bits of the table -/
noncomputable def sub (c x p : Nat) : Bool := decide (∀ j, j < c → x.testBit j = true → p.testBit j = true)
noncomputable def ask (xs : List Nat) (p i : Nat) : Bool := decide (xs.getD i 0 &&& p = xs.getD i 0)
end Mine
end
section
open PySem PySem.W PyProof.Rows
namespace Mine
theorem sum_perm {l₁ l₂ : List Int} (h : l₁.Perm l₂) : l₁.sum = l₂.sum := by
  induction h with
  | nil => rfl
  | cons x _ ih => rw [List.sum_cons, List.sum_cons, ih]
  | swap x y l => simp only [List.sum_cons]; lia
  | trans _ _ ih1 ih2 => exact ih1.trans ih2
end Mine
end
section
open PySem PySem.W PyProof.Rows
namespace Mine
end Mine
end
section
open PySem PySem.W PyProof.Rows
namespace Mine
noncomputable def b2i (b : Bool) : Int := if b = true then 1 else 0
noncomputable def ev (c p : Nat) (ts : List (Int × Nat)) : Int := (ts.map fun q => q.1 * b2i (sub c q.2 p)).sum
end Mine
end
section
open PySem PySem.W PyProof.Rows
namespace Mine
/-! one round of putting slots in order -/
noncomputable def toldN (w L W : Nat) : Nat := ((((W / 2 ^ w) &&& (L * 2 ^ (w - 1) - L)) + L * 2 ^ (w - 1)) - (W &&& (L * 2 ^ (w - 1) - L))) &&& (L * 2 ^ (w - 1))
noncomputable def changeN (w L W : Nat) : Nat := ((W &&& (L * 2 ^ (w - 1) - L)) ^^^ ((W / 2 ^ w) &&& (L * 2 ^ (w - 1) - L))) &&& (toldN w L W - toldN w L W / 2 ^ (w - 1))
noncomputable def stepW (w L W : Nat) : Nat := W ^^^ (changeN w L W ^^^ (changeN w L W * 2 ^ w))
noncomputable def lowN (m w par : Nat) : Nat := if par = 0 then everyN (m / 2) (2 * w) else everyN ((m - 1) / 2) (2 * w) * 2 ^ w
noncomputable def runN (m w W : Nat) : Nat → Nat
  | 0 => W
  | i + 1 => stepW w (lowN m w (i % 2)) (runN m w W i)
structure InPre (m ww W : Nat) (common : Int) : Prop where
  m5 : 5 ≤ m
  m8 : m ≤ 8
  w9 : 9 ≤ ww
  wl : ww ≤ 1208
  lo : 2 ^ (m * ww) ≤ common
  hi : common < 2 ^ 20000
theorem every_lt {s : Nat} (m : Nat) : everyN m s < 2 ^ (m * s) := by
  have := Nat.two_pow_pos (m * s)
  have h : everyN m s ≤ 2 ^ (m * s) - 1 := Nat.div_le_self _ _
  lia
theorem low_lt {m w : Nat} (h1 : 1 ≤ m) (par : Nat) : lowN m w par < 2 ^ (m * w) := by
  unfold lowN
  split
  · refine Nat.lt_of_lt_of_le (every_lt _) (Nat.pow_le_pow_right (by decide) ?_)
    rw [← Nat.mul_assoc]
    exact Nat.mul_le_mul_right _ (by lia)
  · have h2 : everyN ((m - 1) / 2) (2 * w) * 2 ^ w < 2 ^ ((m - 1) / 2 * (2 * w)) * 2 ^ w := Nat.mul_lt_mul_of_pos_right (every_lt _) (Nat.two_pow_pos w)
    refine Nat.lt_of_lt_of_le h2 ?_
    rw [← Nat.pow_add]
    refine Nat.pow_le_pow_right (by decide) ?_
    have e : (m - 1) / 2 * (2 * w) + w = ((m - 1) / 2 * 2 + 1) * w := by rw [Nat.add_mul, Nat.one_mul, Nat.mul_assoc]
    rw [e]
    exact Nat.mul_le_mul_right _ (by lia)
section
variable {mm ww W : Nat} {common : Int}
theorem InPre.mw (H : InPre mm ww W common) : mm * ww ≤ 9664 := Nat.le_trans (Nat.mul_le_mul H.m8 H.wl) (by decide)
theorem od_f0 : ((mm : Int).fdiv 2).toNat = mm / 2 := by
  rw [Int.fdiv_eq_ediv_of_nonneg _ (by decide)]; lia
theorem od_f1 (h : 1 ≤ mm) : (((mm : Int) - 1).fdiv 2).toNat = (mm - 1) / 2 := by
  rw [Int.fdiv_eq_ediv_of_nonneg _ (by decide)]; lia
theorem od_w : (2 * (ww : Int)).toNat = 2 * ww := by lia
theorem InPre.e0 (H : InPre mm ww W common) : 0 ≤ (mm : Int).fdiv 2 ∧ 0 ≤ 2 * (ww : Int) ∧ EvPre ((mm : Int).fdiv 2).toNat (2 * (ww : Int)).toNat common := by
  refine ⟨by rw [Int.fdiv_eq_ediv_of_nonneg _ (by decide)]; lia, by lia, ?_⟩
  rw [od_f0, od_w]
  have h1 := H.w9
  have h2 := H.wl
  have h3 := H.m8
  refine ⟨by lia, by lia, by lia, Int.le_trans (pow2_le ?_) H.lo, H.hi⟩
  rw [← Nat.mul_assoc]
  exact Nat.mul_le_mul_right _ (by lia)
theorem InPre.e1 (H : InPre mm ww W common) : 0 ≤ ((mm : Int) - 1).fdiv 2 ∧ 0 ≤ 2 * (ww : Int) ∧ EvPre (((mm : Int) - 1).fdiv 2).toNat (2 * (ww : Int)).toNat common := by
  have h1 := H.w9
  have h2 := H.wl
  have h3 := H.m8
  have h4 := H.m5
  refine ⟨by rw [Int.fdiv_eq_ediv_of_nonneg _ (by decide)]; lia, by lia, ?_⟩
  rw [od_f1 (by lia), od_w]
  refine ⟨by lia, by lia, by lia, Int.le_trans (pow2_le ?_) H.lo, H.hi⟩
  rw [← Nat.mul_assoc]
  exact Nat.mul_le_mul_right _ (by lia)
theorem sm_any {x n : Nat} (h : x < 2 ^ n) (hn : n ≤ 30000) : Sm (x : Int) := sm_nat h (by lia)
theorem InPre.s1 (H : InPre mm ww W common) : 0 ≤ (ww : Int) ∧ (ww : Int) ≤ 100000 ∧ Sm ((everyN (((mm : Int) - 1).fdiv 2).toNat (2 * (ww : Int)).toNat : Nat) : Int) := by
  have h1 := H.w9
  have h2 := H.wl
  have h3 := H.m8
  have h4 := H.m5
  refine ⟨by lia, by lia, ?_⟩
  rw [od_f1 (by lia), od_w]
  refine sm_any (every_lt _) (Nat.le_trans (Nat.mul_le_mul (show (mm - 1) / 2 ≤ 4 by lia) (show 2 * ww ≤ 2416 by lia)) (by decide))
theorem InPre.s2 (H : InPre mm ww W common) : Sm 2 ∧ Sm (ww : Int) := by
  have h2 := H.wl
  exact ⟨sm_of_lt (n := 2) (by decide) (by decide), sm_any (n := 11) (by rw [show (2 : Nat) ^ 11 = 2048 by decide]; lia) (by decide)⟩
theorem py2 (a : Int) : (2 : Int) ≠ 0 ∧ Builtin.divisionGoesByPylong a 2 = false := ⟨by decide, pylong_small (by decide +kernel)⟩
theorem low_at (H : InPre mm ww W common) (i : Nat) :
    [((everyN ((mm : Int).fdiv 2).toNat (2 * (ww : Int)).toNat : Nat) : Int), ((everyN (((mm : Int) - 1).fdiv 2).toNat (2 * (ww : Int)).toNat : Nat) : Int) * 2 ^ ((ww : Nat) : Int).toNat].getD (((0 : Int) + (i : Int)).fmod 2).toNat 0 = ((lowN mm ww (i % 2) : Nat) : Int) := by
  have h4 := H.m5
  rw [od_f0, od_f1 (by lia), od_w, Int.toNat_natCast, fmod_pos (by decide)]
  unfold lowN
  rcases Nat.mod_two_eq_zero_or_one i with h | h
  · rw [h, show (((0 : Int) + (i : Int)) % 2).toNat = 0 by lia, if_pos rfl]; rfl
  · rw [h, show (((0 : Int) + (i : Int)) % 2).toNat = 1 by lia, if_neg (by decide), Int.natCast_mul, cast_pow2]; rfl
theorem item2 (i : Nat) (a b : Int) : 0 ≤ ((0 : Int) + (i : Int)).fmod 2 ∧ (((0 : Int) + (i : Int)).fmod 2).toNat < [a, b].length := by
  rw [fmod_pos (by decide)]
  show _ ∧ _ < 2
  lia
theorem item2' (i : Nat) : ((0 : Int) + (i : Int)).fmod 2 < 2 ^ 63 := by
  rw [fmod_pos (by decide), show (2 : Int) ^ 63 = 9223372036854775808 by decide]
  lia
theorem change_cast {v Lz : Int} {l V : Nat} (hw : 1 ≤ ww) (hv : v = (V : Int)) (hL : Lz = (l : Int)) :
    Builtin.bitAnd (Builtin.bitXor (Builtin.bitAnd v (Lz * 2 ^ ((ww : Int) - 1).toNat - Lz)) (Builtin.bitAnd (v.fdiv (2 ^ ((ww : Nat) : Int).toNat)) (Lz * 2 ^ ((ww : Int) - 1).toNat - Lz)))
      (Builtin.bitAnd (Builtin.bitAnd (v.fdiv (2 ^ ((ww : Nat) : Int).toNat)) (Lz * 2 ^ ((ww : Int) - 1).toNat - Lz) + Lz * 2 ^ ((ww : Int) - 1).toNat - Builtin.bitAnd v (Lz * 2 ^ ((ww : Int) - 1).toNat - Lz)) (Lz * 2 ^ ((ww : Int) - 1).toNat) -
        (Builtin.bitAnd (Builtin.bitAnd (v.fdiv (2 ^ ((ww : Nat) : Int).toNat)) (Lz * 2 ^ ((ww : Int) - 1).toNat - Lz) + Lz * 2 ^ ((ww : Int) - 1).toNat - Builtin.bitAnd v (Lz * 2 ^ ((ww : Int) - 1).toNat - Lz)) (Lz * 2 ^ ((ww : Int) - 1).toNat)).fdiv (2 ^ ((ww : Int) - 1).toNat)) = ((changeN ww l V : Nat) : Int) := by
  have e1 : ((ww : Int) - 1).toNat = ww - 1 := by lia
  rw [e1, Int.toNat_natCast, hv, hL, mul_pow_nat, fdiv_pow_nat]
  have h1 : l ≤ l * 2 ^ (ww - 1) := Nat.le_mul_of_pos_right _ (Nat.two_pow_pos _)
  have h2 : ((l * 2 ^ (ww - 1) : Nat) : Int) - (l : Int) = ((l * 2 ^ (ww - 1) - l : Nat) : Int) := by lia
  rw [h2, band_nat, band_nat, bxor_nat]
  have h3 : V &&& (l * 2 ^ (ww - 1) - l) ≤ l * 2 ^ (ww - 1) := Nat.le_trans Nat.and_le_right (Nat.sub_le _ _)
  have h4 : (((V / 2 ^ ww &&& (l * 2 ^ (ww - 1) - l) : Nat)) : Int) + ((l * 2 ^ (ww - 1) : Nat) : Int) - ((V &&& (l * 2 ^ (ww - 1) - l) : Nat) : Int) =
      (((V / 2 ^ ww &&& (l * 2 ^ (ww - 1) - l)) + l * 2 ^ (ww - 1) - (V &&& (l * 2 ^ (ww - 1) - l)) : Nat) : Int) := by lia
  rw [h4, band_nat, fdiv_pow_nat]
  have h5 : toldN ww l V / 2 ^ (ww - 1) ≤ toldN ww l V := Nat.div_le_self _ _
  have h6 : ((toldN ww l V : Nat) : Int) - ((toldN ww l V / 2 ^ (ww - 1) : Nat) : Int) = ((toldN ww l V - toldN ww l V / 2 ^ (ww - 1) : Nat) : Int) := by lia
  show Builtin.bitAnd _ (((toldN ww l V : Nat) : Int) - ((toldN ww l V / 2 ^ (ww - 1) : Nat) : Int)) = _
  rw [h6, band_nat]; rfl
theorem change_lt (H : InPre mm ww W common) (i V : Nat) : changeN ww (lowN mm ww (i % 2)) V < 2 ^ 11000 := by
  have h1 : changeN ww (lowN mm ww (i % 2)) V ≤ lowN mm ww (i % 2) * 2 ^ (ww - 1) := Nat.le_trans Nat.and_le_right (Nat.le_trans (Nat.sub_le _ _) Nat.and_le_right)
  have h2 : lowN mm ww (i % 2) * 2 ^ (ww - 1) < 2 ^ (mm * ww) * 2 ^ (ww - 1) := Nat.mul_lt_mul_of_pos_right (low_lt (by have := H.m5; lia) _) (Nat.two_pow_pos _)
  have h3 : 2 ^ (mm * ww) * 2 ^ (ww - 1) ≤ 2 ^ 11000 := by
    rw [← Nat.pow_add]
    exact Nat.pow_le_pow_right (by decide) (by have := H.mw; have := H.wl; lia)
  exact Nat.lt_of_le_of_lt h1 (Nat.lt_of_lt_of_le h2 h3)
theorem ord_ob {x : Int} {i V : Nat} (H : InPre mm ww W common) (hx : x = ((changeN ww (lowN mm ww (i % 2)) V : Nat) : Int)) : 0 ≤ (ww : Int) ∧ (ww : Int) ≤ 100000 ∧ Sm x := by
  have h2 := H.wl
  rw [hx]
  exact ⟨by lia, by lia, sm_any (change_lt H i V) (by decide)⟩
theorem ord_ob2 (H : InPre mm ww W common) {x : Int} {i : Nat} (hx : x = ((lowN mm ww (i % 2) : Nat) : Int)) : 0 ≤ (ww : Int) - 1 ∧ (ww : Int) - 1 ≤ 100000 ∧ Sm x := by
  have h1 := H.w9
  have h2 := H.wl
  rw [hx]
  exact ⟨by lia, by lia, sm_any (low_lt (by have := H.m5; lia) _) (by have := H.mw; lia)⟩
theorem ord_step {v x : Int} {i : Nat} (hv : v = ((runN mm ww W i : Nat) : Int)) (hx : x = ((changeN ww (lowN mm ww (i % 2)) (runN mm ww W i) : Nat) : Int)) :
    Builtin.bitXor v (Builtin.bitXor x (x * 2 ^ ((ww : Nat) : Int).toNat)) = ((runN mm ww W (i + 1) : Nat) : Int) := by
  rw [hx, hv, Int.toNat_natCast, mul_pow_nat, bxor_nat, bxor_nat]; rfl
end
end Mine
end
section
open PySem PySem.W PyProof.Rows
set_option maxRecDepth 100000
namespace Mine
local macro_rules | `(tactic| walk_at $s:str) => `(tactic| k_extra $s)



set_option maxHeartbeats 8000000 in
theorem c_in_order (w : World) (mean : ExcName → Option Value) (mg mb : Str → Option Value) (news : List (Addr × Obj)) (mm ww W : Nat) (common : Int) (t0 t1 t2 t3 : Tok) (H : Ob (InPre mm ww W common)) :
   Cl w mean mg mb 84 13 news [.int W t0, .int mm t1, .int ww t2, .int common t3] (RetI news (runN mm ww W mm : Nat)) := by
  unfold Cl; k_fill
  intro dp un gd cn cs a9 ccd cl outer A₀ base h₀ L m s Q E hB hF hX hN hTop hk hdp hun hret
  k_with_none
  k_with "binaryOp LShift int int" => (k_here; with_reducible refine r_lsh ?_ ?_)
  k_with "inplaceOp LShift int int" => (k_here; with_reducible refine r_ilsh ?_ ?_)
  k_with "binaryOp Mult int int" => (k_here; with_reducible refine r_mul ?_ ?_)
  k_with "binaryOp FloorDiv int int" => (k_here; with_reducible refine r_fdiv ?_ ?_)
  k_with "binaryOp Mod int int" => (k_here; with_reducible refine r_mod ?_ ?_)
  k_with "binaryOp RShift int int" => (k_here; with_reducible refine r_rsh ?_ ?_)
  k_with "inplaceOp RShift int int" => (k_here; with_reducible refine r_irsh ?_ ?_)
  k_with "call builtin:divmod" => (k_here; k_dflt (refine' r_divmod ?k1 ?k2 ?_ ?_; (case k1 => k_asm); (case k2 => k_asm)); intro p9 h9 F9 N9 l9; (try k_lt l9))
  k_with "call builtin:list.append" => (k_here; k_dflt (refine' r_append ?k1 ?k2 ?k3 ?_ ?_; (case k1 => k_asm); (case k2 => k_asm); (case k3 => k_upd)); intro h' F' N'; (try k_sweep))
  k_with "call ref" => (k_here; k_extra "mycall")
  k_with "pyIter ref" => (k_here; first | k_extra "loop" | refine Ob.out ?_)
  k_with "LpPost" => (dsimp only [LpPost])
  k_with "LpEnd" => (k_extra "lpend")
  k_with "subscriptTail Name Name ref int" => (k_here; k_dflt (refine' r_item ?k1 ?k2 ?k3 ?_ ?_ ?_; (case k1 => k_asm); (case k2 => kcj_m); (case k3 => assumption)); intro t9)
  k_with "subscriptTail Name Constant ref int" => (k_here; k_dflt (refine' r_item ?k1 ?k2 ?k3 ?_ ?_ ?_; (case k1 => k_asm); (case k2 => kcj_m); (case k3 => assumption)); intro t9)
  k_with "call builtin:len" => (k_here; k_dflt (refine' r_len ?k1 ?k2 ?_ ?_; (case k1 => k_asm); (case k2 => kcj_m)))
  k_with "subscriptTail Name BinOp ref int" => (k_here; k_dflt (refine' r_item ?k1 ?k2 ?k3 ?_ ?_ ?_; (case k1 => k_asm); (case k2 => kcj_m); (case k3 => exact IntsAre.cons _ _ (IntsAre.cons _ _ IntsAre.nil))); intro t9)
  have hm8 := H.m8; have hw9 := H.w9
  have hm5 := H.m5
  k_with "mycall" => first | (refine' c_isub _ _ _ _ _ _ _ _ _ _ _ _ _ _ _ _ _ _ _ _ _ _ _ _ _ _ ?k1 ?k2 ?k3 ?k4 ?k5 ?kK ?kd ?ku ?_; (case k1 => k_asm); (case k2 => k_asm); (case k3 => k_asm); (case k4 => k_asm); (case k5 => k_asm); (case kK => exact rfl); (case kd => cb_room); (case ku => cb_units); intro t9 h9 tk9 F9 N9) | (refine' c_iadd _ _ _ _ _ _ _ _ _ _ _ _ _ _ _ _ _ _ _ _ _ _ _ _ _ _ ?k1 ?k2 ?k3 ?k4 ?k5 ?kK ?kd ?ku ?_; (case k1 => k_asm); (case k2 => k_asm); (case k3 => k_asm); (case k4 => k_asm); (case k5 => k_asm); (case kK => exact rfl); (case kd => cb_room); (case ku => cb_units); intro t9 h9 tk9 F9 N9) | (refine' c_iand _ _ _ _ _ _ _ _ _ _ _ _ _ _ _ _ _ _ _ _ _ _ _ _ _ _ ?k1 ?k2 ?k3 ?k4 ?k5 ?kK ?kd ?ku ?_; (case k1 => k_asm); (case k2 => k_asm); (case k3 => k_asm); (case k4 => k_asm); (case k5 => k_asm); (case kK => exact rfl); (case kd => cb_room); (case ku => cb_units); intro t9 h9 tk9 F9 N9) | (refine' c_ixor _ _ _ _ _ _ _ _ _ _ _ _ _ _ _ _ _ _ _ _ _ _ _ _ _ _ ?k1 ?k2 ?k3 ?k4 ?k5 ?kK ?kd ?ku ?_; (case k1 => k_asm); (case k2 => k_asm); (case k3 => k_asm); (case k4 => k_asm); (case k5 => k_asm); (case kK => exact rfl); (case kd => cb_room); (case ku => cb_units); intro t9 h9 tk9 F9 N9) | (refine' c_ilshift _ _ _ _ _ _ _ _ _ ?_ _ _ _ _ _ _ _ _ _ _ _ _ _ _ _ _ _ ?k1 ?k2 ?k3 ?k4 ?k5 ?kK ?kd ?ku ?_; (case k1 => k_asm); (case k2 => k_asm); (case k3 => k_asm); (case k4 => k_asm); (case k5 => k_asm); (case kK => exact rfl); (case kd => cb_room); (case ku => cb_units); rotate_left; intro t9 h9 tk9 F9 N9) | (refine' d_every _ _ _ _ _ _ _ _ _ _ _ ?_ _ _ _ _ _ _ _ _ _ _ _ _ _ _ _ _ _ ?k1 ?k2 ?k3 ?k4 ?k5 ?kK ?kd ?ku ?_; (case k1 => k_asm); (case k2 => k_asm); (case k3 => k_asm); (case k4 => k_asm); (case k5 => k_asm); (case kK => exact rfl); (case kd => cb_room); (case ku => cb_units); rotate_left; intro t9 h9 tk9 F9 N9)
  k_with "loop" => k_dflt (
    (rename Fr _ _ _ _ => lF'); (rename News _ _ _ _ => lN'); (rename IsRange _ _ _ _ _ _ _ _ => rgX)
    refine' lp_range (σ := Int × Tok) (fun c => []) _ (fun c => [(Str.ofString "word", .int c.1 c.2)]) [Str.ofString "marks", Str.ofString "field", Str.ofString "low", Str.ofString "high", Str.ofString "told", Str.ofString "change"] (fun i c => c.1 = ((runN mm ww W i : Nat) : Int)) (_, _) rfl rgX (small_one (by lia) (by lia) (by lia) (by lia)) (rangeSize_nat _ _) lF' lN' ?lk rfl ?_ ?_
    (case lk => first | exact List.forall_mem_nil _ | kst_all)
    all_goals (try clear lF' lN')
    rotate_left
    rintro ⟨v, tv⟩ u h tk hP F' N'; (try dsimp only [List.cons_append, List.nil_append, kstB, lpM] at N' hP F'); rw [tn_sub] at hP
    rotate_left
    rintro ⟨v, tv⟩ i t u I it h tk hi hne hic hP F' N'; (try dsimp only [List.cons_append, List.nil_append, kstB, lpM] at N' hne hP F'); have hi' : i < mm := (by lia))
  k_with "lpend" => k_dflt (
    (rename News _ _ _ _ => nE'); (try simp only [List.push_toArray] at nE')
    refine' LpEnd.intro (_, _) ?e1 nE' ?e3 ?e4 ?e5 ?e6 ?e7 ?e8
    (case e1 => k_asm); (case e3 => kcj_in); (case e4 => kcj_m); (case e5 => first | exact List.forall_mem_nil _ | (intro p9 hp9; (repeat' (rcases List.mem_cons.mp hp9 with rfl | hp9)); all_goals first | exact ne_cls rfl (by assumption) (by decide) | exact absurd hp9 (List.not_mem_nil))); (case e6 => kst_all); (case e7 => kst_same); (case e8 => exact ord_step (by assumption) (change_cast (by lia) (by assumption) (low_at H _))))
  refine wpAny_call ?_
  k_dflt cell_enter
  k_steps
  all_goals first
    | exact H.s1
    | exact H.s2
    | exact H.e0
    | exact H.e1
    | exact py2 _
    | exact item2 _ _ _
    | exact item2' _
    | (show _ ≠ _; decide)
    | (show 0 ≤ _; lia)
    | exact ord_ob2 H (low_at H _)
    | exact ord_ob H (change_cast (by lia) (by assumption) (low_at H _))
    | (rw [RetI, ← (by assumption : _ = ((runN mm ww W mm : Nat) : Int))] at hret; (refine' hret _ _ _ ?e1 (cb_drop ?e2 ?e3); (case e1 => k_asm); (case e2 => k_asm); (case e3 => kcj_all)))
    | skip
end Mine
end
section
open PySem PySem.W PyProof.Rows
namespace Mine
/-! the sort's questions, answered by an order -/
noncomputable def KRun {α : Type} (lt : Nat → Nat → Bool) (n : Nat) : KasT α → (α → Prop) → Prop
  | .ret a, P => P a
  | .ask i j k, P => i < n ∧ j < n ∧ KRun lt n (k (lt i j)) P
theorem KRun.bind {α β : Type} {lt : Nat → Nat → Bool} {n : Nat} {f : α → KasT β} {P : β → Prop} : ∀ {t : KasT α}, KRun lt n t (fun a => KRun lt n (f a) P) → KRun lt n (t.bind f) P
  | .ret _, h => h
  | .ask _ _ _, ⟨h1, h2, h3⟩ => ⟨h1, h2, KRun.bind h3⟩
theorem KRun.mono {α : Type} {lt : Nat → Nat → Bool} {n : Nat} {P P' : α → Prop} (hp : ∀ a, P a → P' a) : ∀ {t : KasT α}, KRun lt n t P → KRun lt n t P'
  | .ret _, h => hp _ h
  | .ask _ _ _, ⟨h1, h2, h3⟩ => ⟨h1, h2, KRun.mono hp h3⟩
theorem KRun.wp {α : Type} {lt : Nat → Nat → Bool} {n : Nat} {cmp : Nat → Nat → (Bool → Shared → Prop) → Shared → Prop} {s : Shared} (hc : ∀ i j C, i < n → j < n → C (lt i j) s → cmp i j C s) {Q : α → Shared → Prop} {P : α → Prop} (hq : ∀ a, P a → Q a s) :
    ∀ {t : KasT α}, KRun lt n t P → t.kasWp cmp Q s
  | .ret _, h => hq _ h
  | .ask i j k, ⟨h1, h2, h3⟩ => hc i j _ h1 h2 (KRun.wp hc hq h3)
structure StrictOn (lt : Nat → Nat → Bool) (n : Nat) : Prop where
  asym : ∀ a b, a < n → b < n → a ≠ b → lt a b = !lt b a
  trans : ∀ a b c, a < n → b < n → c < n → lt a b = true → lt b c = true → lt a c = true
noncomputable def PermN (n : Nat) (p : Array Nat) : Prop := p.toList.Perm (List.range n)
noncomputable def SrtTo (lt : Nat → Nat → Bool) (p : Array Nat) (m : Nat) : Prop := ∀ i j, i < j → j < m → lt (p.getD i 0) (p.getD j 0) = true
section
variable {lt : Nat → Nat → Bool} {n : Nat} {p : Array Nat}
theorem PermN.size (h : PermN n p) : p.size = n := by
  have := h.length_eq
  rw [List.length_range, Array.length_toList] at this
  exact this
theorem PermN.bd (h : PermN n p) {i : Nat} (hi : i < n) : p.getD i 0 < n := by
  have hs := h.size
  have : p.getD i 0 ∈ p.toList := by simp [Array.getD, (show i < p.size by lia)]
  exact List.mem_range.mp (h.mem_iff.mp this)
theorem PermN.ne (h : PermN n p) {i j : Nat} (hi : i < n) (hj : j < n) (hij : i ≠ j) : p.getD i 0 ≠ p.getD j 0 := by
  have hs := h.size
  have hn : p.toList.Nodup := h.nodup_iff.mpr List.nodup_range
  have h1 : i < p.toList.length := by rw [Array.length_toList]; lia
  have h2 : j < p.toList.length := by rw [Array.length_toList]; lia
  intro e
  have e1 : p.getD i 0 = p.toList[i] := by simp [Array.getD, (show i < p.size by lia)]
  have e2 : p.getD j 0 = p.toList[j] := by simp [Array.getD, (show j < p.size by lia)]
  rw [e1, e2] at e
  exact hij ((List.getElem_inj hn).mp e)
theorem PermN.of_perm {q : Array Nat} (h : PermN n p) (hq : q.Perm p) : PermN n q := (Array.Perm.toList hq).trans h
theorem SrtTo.snoc (O : StrictOn lt n) (H : PermN n p) {m : Nat} (hm : m < n) (h1 : 1 ≤ m) (h : SrtTo lt p m) (hl : lt (p.getD (m - 1) 0) (p.getD m 0) = true) : SrtTo lt p (m + 1) := by
  intro i j hij hj
  rcases Nat.lt_or_ge j m with h2 | h2
  · exact h i j hij h2
  · have : j = m := by lia
    subst this
    rcases Nat.lt_or_ge i (j - 1) with h3 | h3
    · exact O.trans _ _ _ (H.bd (by lia)) (H.bd (by lia)) (H.bd hm) (h i (j - 1) h3 (by lia)) hl
    · have : i = j - 1 := by lia
      rw [this]; exact hl
theorem asc_run (O : StrictOn lt n) (H : PermN n p) : ∀ (f m : Nat), 1 ≤ m → m + f ≤ n → SrtTo lt p m → KRun lt n (kas_asc p f m) (fun r => m ≤ r ∧ r ≤ m + f ∧ SrtTo lt p r ∧ (r < m + f → lt (p.getD r 0) (p.getD (r - 1) 0) = true))
  | 0, m, _, _, h => ⟨Nat.le_refl _, Nat.le_refl _, h, fun h => absurd h (Nat.lt_irrefl _)⟩
  | f + 1, m, h1, h2, h => by
    unfold kas_asc
    refine ⟨H.bd (by lia), H.bd (by lia), ?_⟩
    cases e : lt (p.getD m 0) (p.getD (m - 1) 0) with
    | true =>
      dsimp only
      rw [if_pos rfl]
      exact ⟨Nat.le_refl _, by lia, h, fun _ => e⟩
    | false =>
      dsimp only
      rw [if_neg Bool.false_ne_true]
      have h3 := O.asym (p.getD (m - 1) 0) (p.getD m 0) (H.bd (by lia)) (H.bd (by lia)) (H.ne (by lia) (by lia) (by lia))
      rw [e] at h3
      refine KRun.mono (fun r hr => ?_) (asc_run O H f (m + 1) (by lia) (by lia) (h.snoc O H (by lia) h1 h3))
      exact ⟨by lia, by lia, hr.2.2.1, fun hlt => hr.2.2.2 (by lia)⟩
noncomputable def DesTo (lt : Nat → Nat → Bool) (p : Array Nat) (m : Nat) : Prop := ∀ i j, i < j → j < m → lt (p.getD j 0) (p.getD i 0) = true
theorem DesTo.snoc (O : StrictOn lt n) (H : PermN n p) {m : Nat} (hm : m < n) (h1 : 1 ≤ m) (h : DesTo lt p m) (hl : lt (p.getD m 0) (p.getD (m - 1) 0) = true) : DesTo lt p (m + 1) := by
  intro i j hij hj
  rcases Nat.lt_or_ge j m with h2 | h2
  · exact h i j hij h2
  · have : j = m := by lia
    subst this
    rcases Nat.lt_or_ge i (j - 1) with h3 | h3
    · exact O.trans _ _ _ (H.bd hm) (H.bd (by lia)) (H.bd (by lia)) hl (h i (j - 1) h3 (by lia))
    · have : i = j - 1 := by lia
      rw [this]; exact hl
theorem desc_run (O : StrictOn lt n) (H : PermN n p) : ∀ (f m : Nat), 1 ≤ m → m + f ≤ n → DesTo lt p m → KRun lt n (kas_desc f p m 0) (fun r => r.1 = p ∧ m ≤ r.2.1 ∧ r.2.1 ≤ m + f ∧ r.2.2 = 0 ∧ DesTo lt p r.2.1)
  | 0, m, _, _, h => ⟨rfl, Nat.le_refl _, Nat.le_refl _, rfl, h⟩
  | f + 1, m, h1, h2, h => by
    unfold kas_desc
    refine ⟨H.bd (by lia), H.bd (by lia), ?_⟩
    cases e : lt (p.getD m 0) (p.getD (m - 1) 0) with
    | true =>
      dsimp only
      rw [if_pos rfl, if_neg (by lia)]
      refine KRun.mono (fun r hr => ?_) (desc_run O H f (m + 1) (by lia) (by lia) (h.snoc O H (by lia) h1 e))
      exact ⟨hr.1, by lia, by lia, hr.2.2.2.1, hr.2.2.2.2⟩
    | false =>
      dsimp only
      rw [if_neg Bool.false_ne_true]
      have h3 := O.asym (p.getD (m - 1) 0) (p.getD m 0) (H.bd (by lia)) (H.bd (by lia)) (H.ne (by lia) (by lia) (by lia))
      rw [e] at h3
      refine ⟨H.bd (by lia), H.bd (by lia), ?_⟩
      rw [h3]
      dsimp only
      exact ⟨rfl, Nat.le_refl _, by show m ≤ _; lia, rfl, h⟩
theorem getD_of {q : Array Nat} (k : Nat) : q.getD k 0 = q[k]?.getD 0 := by simp [Array.getD_eq_getD_getElem?]
theorem rev_get (H : PermN n p) {m k : Nat} (hm : m ≤ n) : (kas_rev p 0 m).getD k 0 = if k < m then p.getD (m - 1 - k) 0 else p.getD k 0 := by
  rw [getD_of, getD_of, getD_of]
  unfold kas_rev
  rw [getElem?_mirror_all (by rw [H.size]; exact hm)]
  by_cases h : k < m
  · rw [if_pos ⟨Nat.zero_le _, h⟩, if_pos h, Nat.zero_add]
  · rw [if_neg (fun x => h x.2), if_neg h]
theorem rev_perm (H : PermN n p) (i j : Nat) : PermN n (kas_rev p i j) := H.of_perm (mirror_perm _ _ _ _)
theorem rev_srt (H : PermN n p) {m : Nat} (hm : m ≤ n) (h : DesTo lt p m) : SrtTo lt (kas_rev p 0 m) m := by
  intro i j hij hj
  rw [rev_get H hm, rev_get H hm, if_pos (by lia), if_pos hj]
  exact h _ _ (by lia) (by lia)
theorem desPart_run (O : StrictOn lt n) (H : PermN n p) {m : Nat} (h1 : 1 ≤ m) (hm : m < n) (h : DesTo lt p (m + 1)) : KRun lt n (kas_descPart m n p) (fun r => 1 ≤ r.1 ∧ r.1 ≤ n ∧ PermN n r.2 ∧ (SrtTo lt r.2 r.1)) := by
  unfold kas_descPart
  refine KRun.bind (KRun.mono (fun r hr => ?_) (desc_run O H (n - (m + 1)) (m + 1) (by lia) (by lia) h))
  obtain ⟨e1, e2, e3, e4, e5⟩ := hr
  rw [e4, if_neg (by lia), e1]
  unfold kas_tail3
  have hn : r.2.1 ≤ n := by lia
  have H' := rev_perm H 0 r.2.1
  refine KRun.bind (KRun.mono (fun a ha => ?_) (asc_run O H' (n - r.2.1) r.2.1 (by lia) (by lia) (rev_srt H hn e5)))
  exact ⟨by show 1 ≤ a; lia, by show a ≤ n; lia, H', ha.2.2.1⟩
theorem count_run (O : StrictOn lt n) (H : PermN n p) (hn : 1 ≤ n) : KRun lt n (kas_count n p) (fun r => 1 ≤ r.1 ∧ r.1 ≤ n ∧ PermN n r.2 ∧ SrtTo lt r.2 r.1) := by
  unfold kas_count
  have h1 : SrtTo lt p 1 := fun i j hij hj => absurd hij (by lia)
  refine KRun.bind (KRun.mono (fun m hm => ?_) (asc_run O H (n - 1) 1 (Nat.le_refl _) (by lia) h1))
  obtain ⟨a1, a2, a3, a4⟩ := hm
  split
  · exact ⟨a1, by show m ≤ n; lia, H, a3⟩
  · rename_i hne
    have hne : m ≠ n := by simpa using hne
    split
    · rename_i hm1
      refine ⟨H.bd (by lia), H.bd (by lia), ?_⟩
      rw [a3 0 (m - 1) (by lia) (by lia)]
      exact ⟨a1, by show m ≤ n; lia, H, a3⟩
    · have e : m = 1 := by lia
      subst e
      refine desPart_run O H (Nat.le_refl _) (by lia) fun i j hij hj => ?_
      have hi : i = 0 := by lia
      have hj : j = 1 := by lia
      subst hi hj
      exact a4 (by lia)
theorem place_run (O : StrictOn lt n) (H : PermN n p) {k : Nat} (hk : k < n) (hs : SrtTo lt p k) : ∀ (f l r : Nat), l ≤ r → r ≤ k → r - l ≤ f → (∀ i, i < l → lt (p.getD i 0) (p.getD k 0) = true) → (∀ i, r ≤ i → i < k → lt (p.getD k 0) (p.getD i 0) = true) →
    KRun lt n (kas_place p k f l r) (fun x => x ≤ k ∧ (∀ i, i < x → lt (p.getD i 0) (p.getD k 0) = true) ∧ (∀ i, x ≤ i → i < k → lt (p.getD k 0) (p.getD i 0) = true))
  | 0, l, r, h1, h2, h3, h4, h5 => by
    have e : l = r := by lia
    subst e
    exact ⟨h2, h4, h5⟩
  | f + 1, l, r, h1, h2, h3, h4, h5 => by
    unfold kas_place
    split
    · have e : l = r := by lia
      subst e
      exact ⟨h2, h4, h5⟩
    · rename_i hlr
      have hm : (l + r) / 2 < k := by lia
      refine ⟨H.bd hk, H.bd (by lia), ?_⟩
      cases e : lt (p.getD k 0) (p.getD ((l + r) / 2) 0) with
      | true =>
        dsimp only
        rw [if_pos rfl]
        refine place_run O H hk hs f _ _ (by lia) (by lia) (by lia) h4 fun i hi hik => ?_
        rcases Nat.lt_or_ge ((l + r) / 2) i with h6 | h6
        · exact O.trans _ _ _ (H.bd hk) (H.bd (by lia)) (H.bd (by lia)) e (hs _ _ h6 hik)
        · have : i = (l + r) / 2 := by lia
          rw [this]; exact e
      | false =>
        dsimp only
        rw [if_neg Bool.false_ne_true]
        have h7 := O.asym (p.getD ((l + r) / 2) 0) (p.getD k 0) (H.bd (by lia)) (H.bd hk) (H.ne (by lia) hk (by lia))
        rw [e] at h7
        refine place_run O H hk hs f _ _ (by lia) h2 (by lia) (fun i hi => ?_) h5
        rcases Nat.lt_or_ge i ((l + r) / 2) with h6 | h6
        · exact O.trans _ _ _ (H.bd (by lia)) (H.bd (by lia)) (H.bd hk) (hs _ _ h6 hm) h7
        · have : i = (l + r) / 2 := by lia
          rw [this]; exact h7
theorem bub_get (H : PermN n p) {k x i : Nat} (hk : k < n) (hx : x ≤ k) : (bubble p k (k - x)).getD i 0 = if i = x then p.getD k 0 else if x < i ∧ i ≤ k then p.getD (i - 1) 0 else p.getD i 0 := by
  rw [getD_of, getD_of, getD_of, getD_of, getElem?_bubble (by rw [H.size]; exact hk) _ (by lia), show k - (k - x) = x by lia]
  by_cases h1 : i = x
  · rw [if_pos h1, if_pos h1]
  · rw [if_neg h1, if_neg h1]
    by_cases h2 : x < i ∧ i ≤ k
    · rw [if_pos h2, if_pos h2]
    · rw [if_neg h2, if_neg h2]
theorem bub_srt (H : PermN n p) {k x : Nat} (hk : k < n) (hs : SrtTo lt p k) (hx : x ≤ k) (h1 : ∀ i, i < x → lt (p.getD i 0) (p.getD k 0) = true) (h2 : ∀ i, x ≤ i → i < k → lt (p.getD k 0) (p.getD i 0) = true) :
    SrtTo lt (bubble p k (k - x)) (k + 1) := by
  intro i j hij hj
  rw [bub_get H hk hx, bub_get H hk hx]
  by_cases e1 : i = x
  · rw [if_pos e1, if_neg (by lia), if_pos (by lia)]
    exact h2 _ (by lia) (by lia)
  · rw [if_neg e1]
    by_cases e2 : x < i ∧ i ≤ k
    · rw [if_pos e2, if_neg (by lia), if_pos (by lia)]
      exact hs _ _ (by lia) (by lia)
    · rw [if_neg e2]
      have hi : i < x := by lia
      by_cases e3 : j = x
      · rw [if_pos e3]; exact h1 i hi
      · rw [if_neg e3]
        by_cases e4 : x < j ∧ j ≤ k
        · rw [if_pos e4]; exact hs _ _ (by lia) (by lia)
        · rw [if_neg e4]; exact hs _ _ hij (by lia)
theorem bin_run (O : StrictOn lt n) : ∀ (f : Nat) (p : Array Nat) (k : Nat), PermN n p → 1 ≤ k → k + f = n → SrtTo lt p k → KRun lt n (kas_bin f p k) (fun q => PermN n q ∧ SrtTo lt q n)
  | 0, p, k, H, _, h2, h => by
    have : k = n := by lia
    subst this
    exact ⟨H, h⟩
  | f + 1, p, k, H, h1, h2, h => by
    unfold kas_bin
    refine KRun.bind (KRun.mono (fun x hx => ?_) (place_run O H (by lia) h k 0 k (Nat.zero_le _) (Nat.le_refl _) (by lia) (fun i hi => absurd hi (Nat.not_lt_zero i)) fun i h5 h6 => absurd h6 (by lia)))
    exact bin_run O f _ (k + 1) (H.of_perm (bubble_perm _ _ _)) (by lia) (by lia) (bub_srt H (by lia) h hx.1 hx.2.1 hx.2.2)
theorem sort_run (O : StrictOn lt n) (hn : 1 ≤ n) : KRun lt n (kas_sort n) (fun q => PermN n q ∧ SrtTo lt q n) := by
  unfold kas_sort
  refine KRun.bind (KRun.mono (fun r hr => ?_) (count_run O (show PermN n (List.toArray (List.range n)) from List.Perm.refl _) hn))
  obtain ⟨a1, a2, a3, a4⟩ := hr
  split
  · rw [show max r.1 1 = r.1 by lia]
    exact bin_run O _ _ _ a3 a1 (by lia) a4
  · have : r.1 = n := by lia
    rw [this] at a4
    exact ⟨a3, a4⟩
end
end Mine
end
section
open PySem PySem.W PyProof.Rows PySem.Calls PySem.Spec
set_option maxRecDepth 100000
namespace Mine
/-! sorted() of a list of pairs -/
noncomputable def lexLt (x y : Int × Int) : Bool := decide (x.1 < y.1) || (decide (x.1 = y.1) && decide (x.2 < y.2))
noncomputable def ltL (tl : List TT) (i j : Nat) : Bool := lexLt ((tl.map TT.v).getD i (0, 0)) ((tl.map TT.v).getD j (0, 0))
section
variable {prog : Program} {w : World} {A : Around} {E : Value → Shared → Prop} {s : Shared} {h₀ : Heap} {L : Addr} {m : Str → Option Value} {nw : List (Addr × Obj)}
theorem tt_getD {tl : List TT} {i : Nat} (hi : i < tl.length) : (tl.map TT.r).getD i Value.none = .ref tl[i].p ∧ (tl.map TT.v).getD i (0, 0) = tl[i].v := by
  constructor
  · simp [List.getD_eq_getElem?_getD, hi]
  · simp [List.getD_eq_getElem?_getD, hi]
theorem ask_tt {tl : List TT} (htl : ∀ y ∈ tl, s.heap.get? y.p = some y.e.2) {i j : Nat} (hi : i < tl.length) (hj : j < tl.length) {C : Bool → Shared → Prop} (h : C (ltL tl i j) s) : kas_ask prog w A (tuples' true) (tl.map TT.r) i j C s := by
  unfold kas_ask
  rw [(tt_getD hi).1, (tt_getD hj).1]
  unfold ltL lexLt at h
  rw [(tt_getD hi).2, (tt_getD hj).2] at h
  have e1 := htl _ (List.getElem_mem hi)
  have e2 := htl _ (List.getElem_mem hj)
  generalize tl[i] = x at h e1 ⊢
  generalize tl[j] = y at h e2 ⊢
  obtain ⟨xp, xa, xt, xb, xu⟩ := x
  obtain ⟨yp, ya, yt, yb, yu⟩ := y
  refine kat_lt e1 rfl e2 rfl ?_
  show KatLex prog w A true false C [(.int xa xt, .int ya yt), (.int xb xu, .int yb yu)] 0 s
  dsimp only [TT.v] at h
  refine kat_cons (wpAny_eqBool_int ?_)
  by_cases ha : xa = ya
  · subst ha
    rw [beq_self_eq_true]
    refine kat_yes (kat_cons (wpAny_eqBool_int ?_))
    rw [decide_eq_false (Int.lt_irrefl _), decide_eq_true rfl, Bool.false_or, Bool.true_and] at h
    by_cases hb : xb = yb
    · subst hb
      rw [beq_self_eq_true]
      rw [decide_eq_false (Int.lt_irrefl _)] at h
      exact kat_yes (kat_nil h)
    · rw [show (xb == yb) = false from by simpa using hb]
      refine kat_no ?_
      show wpAny (model prog w) A (oneLt' false (.int xb xu) (.int yb yu)) C (fun _ _ => False) s
      refine kat_one _ _ (PyProof.Rows.lt_int ?_)
      exact h
  · rw [show (xa == ya) = false from by simpa using ha]
    refine kat_no ?_
    show wpAny (model prog w) A (oneLt' true (.int xa xt) (.int ya yt)) C (fun _ _ => False) s
    rw [decide_eq_false ha, Bool.false_and, Bool.or_false] at h
    exact oneLt_int h
theorem ltL_strict {tl : List TT} (hn : (tl.map fun y => y.b).Nodup) : StrictOn (ltL tl) tl.length where
  asym := fun i j hi hj hij => by
    unfold ltL lexLt
    rw [(tt_getD hi).2, (tt_getD hj).2]
    have hb : tl[i].b ≠ tl[j].b := by
      intro e
      have h1 : i < (tl.map fun y => y.b).length := by rw [List.length_map]; exact hi
      have h2 : j < (tl.map fun y => y.b).length := by rw [List.length_map]; exact hj
      exact hij ((List.getElem_inj hn (h₀ := h1) (h₁ := h2)).mp (by rw [List.getElem_map, List.getElem_map]; exact e))
    dsimp only [TT.v]
    by_cases h1 : tl[i].a < tl[j].a
    · have h2 : ¬ tl[j].a < tl[i].a := by lia
      have h3 : ¬ tl[j].a = tl[i].a := by lia
      simp [h1, h2, h3]
    · by_cases h2 : tl[j].a < tl[i].a
      · have h3 : ¬ tl[i].a = tl[j].a := by lia
        simp [h1, h2, h3]
      · have h3 : tl[i].a = tl[j].a := by lia
        by_cases h4 : tl[i].b < tl[j].b
        · have h5 : ¬ tl[j].b < tl[i].b := by lia
          simp [h3, h4, h5]
        · have h5 : tl[j].b < tl[i].b := by lia
          simp [h3, h4, h5]
  trans := fun i j k hi hj hk => by
    unfold ltL lexLt
    rw [(tt_getD hi).2, (tt_getD hj).2, (tt_getD hk).2]
    dsimp only [TT.v]
    simp only [Bool.or_eq_true, Bool.and_eq_true, decide_eq_true_eq]
    lia
theorem tups_of : ∀ (tl : List TT), (∀ y ∈ tl, s.heap.get? y.p = some y.e.2) → KatTups s.heap (tl.map TT.r) (tl.map fun y => Value.int y.a y.t)
  | [], _ => KatTups.nil
  | y :: r, h => KatTups.cons (h y List.mem_cons_self) rfl rfl rfl (tups_of r fun z hz => h z (List.mem_cons_of_mem _ hz))
theorem r_sorted_tt {q : Addr} {kk : Nat} {tl : List TT} {Q : Value → Shared → Prop} (F : Fr h₀ L s.heap m) (N : News h₀ L s.heap nw) (hq : (q, listOf (tl.map TT.r).toArray kk) ∈ nw) (htl : ∀ y ∈ tl, y.e ∈ nw) (h2 : 2 ≤ tl.length) (h64 : tl.length < 64) (hn : (tl.map fun y => y.b).Nodup)
    (h : ∀ D (tl' : List TT) c h', tl'.Perm tl → tl'.Pairwise (fun x y => lexLt x.v y.v = true) → Fr h₀ L h' m → News h₀ L h' ((D, listOf (tl'.map TT.r).toArray c) :: nw) → (∀ p ∈ nw, p.1 < D) → Q (.ref D) { s with heap := h' }) :
    wpAny (model prog w) A (call (.builtin "sorted") [.ref q]) Q E s := by
  have hol : s.heap.IsList q (tl.map TT.r).toArray := ⟨_, (N _ hq).1, rfl, kk, rfl⟩
  refine kat_sorted F N hol (by rw [List.length_map]; exact h2) (by rw [List.length_map]; exact h64) fun D e1 h1 F1 N1 l1 => ?_
  have htl1 : ∀ y ∈ tl, h1.get? y.p = some y.e.2 := fun y hy => (N1 _ (List.mem_cons_of_mem _ (htl y hy))).1
  refine kat_kind (T := .type "int") (tups_of (s := { s with heap := h1 }) tl htl1) (by rw [List.length_map]; lia) (fun v hv => ?_) rfl ?_
  · obtain ⟨y, _, rfl⟩ := List.mem_map.mp hv
    exact Looks.of_pure rfl
  · rw [List.length_map]
    refine KRun.wp (lt := ltL tl) (n := tl.length) (fun i j C hi hj hc => ask_tt (s := { s with heap := h1 }) htl1 hi hj hc) (fun p hp => ?_) (sort_run (ltL_strict hn) (by lia))
    obtain ⟨hP, hS⟩ := hp
    refine KasFin.intro F1 N1 (.head fun r hr => Nat.ne_of_lt (l1 r hr)) fun h' c F' N' => ?_
    have e : (p.toList.map fun i => (tl.map TT.r).getD i Value.none) = (p.toList.filterMap (tl[·]?)).map TT.r := by
      have : ∀ l : List Nat, (∀ i ∈ l, i < tl.length) → (l.map fun i => (tl.map TT.r).getD i Value.none) = (l.filterMap (tl[·]?)).map TT.r := by
        intro l
        induction l with
        | nil => intro _; rfl
        | cons i r ih =>
          intro hb
          have hi := hb i List.mem_cons_self
          rw [List.map_cons, List.filterMap_cons_some (b := tl[i]) (List.getElem?_eq_getElem hi), List.map_cons, ih fun j hj => hb j (List.mem_cons_of_mem _ hj), (tt_getD hi).1]
      exact this _ fun i hi => List.mem_range.mp (hP.mem_iff.mp hi)
    rw [e] at N'
    refine h D _ c h' ?_ ?_ F' N' l1
    · have := hP.filterMap (tl[·]?)
      rw [List.filterMap_getElem?_range_length] at this
      exact this
    · have hb : ∀ i ∈ p.toList, i < tl.length := fun i hi => List.mem_range.mp (hP.mem_iff.mp hi)
      have hpw : p.toList.Pairwise (fun i j => ltL tl i j = true) := by
        rw [List.pairwise_iff_getElem]
        intro i j hi hj hij
        rw [Array.length_toList] at hi hj
        have := hS i j hij (by rw [← hP.size]; exact hj)
        simpa [Array.getD, hi, hj] using this
      revert hb hpw
      generalize p.toList = l
      clear hP hS e N' F'
      intro hb hpw
      induction l with
      | nil => exact .nil
      | cons i r ih =>
        have hi := hb i List.mem_cons_self
        obtain ⟨p1, p2⟩ := List.pairwise_cons.mp hpw
        rw [List.filterMap_cons_some (b := tl[i]) (List.getElem?_eq_getElem hi)]
        refine List.pairwise_cons.mpr ⟨fun y hy => ?_, ih (fun j hj => hb j (List.mem_cons_of_mem _ hj)) p2⟩
        obtain ⟨j, hj, ej⟩ := List.mem_filterMap.mp hy
        have hjl := hb j (List.mem_cons_of_mem _ hj)
        have := p1 j hj
        unfold ltL at this
        rw [(tt_getD hi).2, (tt_getD hjl).2] at this
        rw [List.getElem?_eq_getElem hjl] at ej
        rw [← Option.some.inj ej]
        exact this
end
end Mine
end
section
open PySem PySem.W PyProof.Rows PySem.Calls PySem.Spec
open PyProof.Rows.LCg (NsObj lst Off3 Off1 SrcAt CompEnd CompRest FinE CompSrc)
open PyProof.Rows.LCt (CompRestT CompSrcT)
namespace Mine
section
variable {prog : Program} {w : World} {A : Around} {E : Value → Shared → Prop} {s : Shared} {h₀ : Heap} {L : Addr} {m : Str → Option Value} {env : Env}
noncomputable def CTEnd (h₀ : Heap) (L : Addr) (m : Str → Option Value) (led : List (Addr × Obj)) (g : Bool) (s₁ : Shared) (ok : Bool) (s₂ : Shared) : Prop :=
  ok = g ∧ ∃ (h' : Heap) (tk' : Nat), s₂ = { s₁ with heap := h', toks := tk' } ∧ Fr h₀ L h' m ∧ News h₀ L h' led
theorem CTEnd.intro {led led' : List (Addr × Obj)} {g ok : Bool} {s₁ : Shared} {h' : Heap} {tk' : Nat}
    (F : Fr h₀ L h' m) (N : News h₀ L h' led') (hs : ∀ p ∈ led, p ∈ led') (ha : Ob (ok = g)) : CTEnd h₀ L m led g s₁ ok { s₁ with heap := h', toks := tk' } :=
  ⟨ha, h', tk', rfl, F, fun p hp => N p (hs p hp)⟩
end
end Mine
end
section
open PySem PySem.W PyProof.Rows PySem.Calls PySem.Spec
open PyProof.Rows.LCg (NsObj lst Off3 Off1 SrcAt CompEnd CompRest FinE FinA CompSrc)
open PyProof.Rows.LCp (CompRestP SrcLP)
set_option maxRecDepth 100000
namespace Mine
section
variable {prog : Program} {w : World} {A : Around} {E : Value → Shared → Prop} {s : Shared} {h₀ : Heap} {L : Addr} {m : Str → Option Value} {env : Env}
theorem off_ne {D : Addr} : ∀ {nw : List (Addr × Obj)}, Off1 D nw → ∀ p ∈ nw, p.1 ≠ D
  | [], _ => fun p hp => (nomatch hp)
  | z :: r, off => fun p hp => by
    rcases List.mem_cons.mp hp with rfl | hp
    · exact off.1
    · exact off_ne off.2 p hp
theorem lcip_ind {elt : Expr} {x : Str} {scope : Scope} {cl : List (Str × Addr)} {S : List (Addr × Obj) → Prop} {P : Nat → Value → Prop} {Fin : List Value → List (Addr × Obj) → Prop} {nw : List (Addr × Obj)} (n : Nat) (f : Nat → Int × Int)
    (hS : ∀ nw', (∀ p ∈ nw, p ∈ nw') → S nw')
    (turn : ∀ i v (nw' : List (Addr × Obj)) ys I oI C oC D m₂ (s₁ : Shared) (E' : Value → Shared → Prop), (∃ h tk, s₁ = { s with heap := h, toks := tk }) → i < n → P i v → (∀ p ∈ nw, p ∈ nw') → NsObj oC m₂ → m₂ x = some v → Fr h₀ L s₁.heap m → News h₀ L s₁.heap ((I, oI) :: (C, oC) :: (D, lst ys) :: nw') →
      wpAny (model prog w) A (eval elt (compEnvC scope cl C env)) (CPEnd h₀ L m ((I, oI) :: (C, oC) :: (D, lst ys) :: nw') (f i).1 (f i).2 s₁) E' s₁)
    (fin : ∀ (tl' : List TT) (nw' : List (Addr × Obj)), tl'.map TT.v = (List.range n).map f → (∀ y ∈ tl', y.e ∈ nw') → (∀ p ∈ nw, p ∈ nw') → Fin (tl'.map TT.r) nw') :
    ∀ (r i : Nat) (tl' : List TT) (nw' : List (Addr × Obj)), r + i = n → tl'.map TT.v = (List.range i).map f → (∀ y ∈ tl', y.e ∈ nw') → (∀ p ∈ nw, p ∈ nw') →
      CompRest prog w A h₀ L m env elt x scope cl s S P Fin r i (tl'.map TT.r) nw'
  | 0, i, tl', nw', hr, hv, ht, hk => by
    have e : i = n := by lia
    subst e
    exact CompRest.zero (fin tl' nw' hv ht hk)
  | r + 1, i, tl', nw', hr, hv, ht, hk => by
    refine CompRest.succ fun v I oI C oC D m₂ h tk E' hP hC hx F N off ne => ?_
    refine wpAny_mono (turn i v nw' _ I oI C oC D m₂ { s with heap := h, toks := tk } E' ⟨_, _, rfl⟩ (by lia) hP hk hC hx F N) (fun z s₂ hz => ?_) fun _ _ e => e
    obtain ⟨y', h', tk', rfl, ha, hb, rfl, F', N', l'⟩ := hz
    refine CompEnd.intro F' N' (y'.e :: nw') (fun p hp => ?_) ?_ (hS _ fun p hp => List.mem_cons_of_mem _ (hk p hp)) ?_
    · rcases List.mem_cons.mp hp with rfl | hp
      · exact List.mem_cons_of_mem _ List.mem_cons_self
      rcases List.mem_cons.mp hp with rfl | hp
      · exact List.mem_cons_of_mem _ (List.mem_cons_of_mem _ List.mem_cons_self)
      rcases List.mem_cons.mp hp with rfl | hp
      · exact List.mem_cons_of_mem _ (List.mem_cons_of_mem _ (List.mem_cons_of_mem _ List.mem_cons_self))
      rcases List.mem_cons.mp hp with rfl | hp
      · exact List.mem_cons_self
      · exact List.mem_cons_of_mem _ (List.mem_cons_of_mem _ (List.mem_cons_of_mem _ (List.mem_cons_of_mem _ hp)))
    · refine ⟨⟨?_, ?_, ?_⟩, off⟩
      · exact Nat.ne_of_gt (l' _ List.mem_cons_self)
      · exact Nat.ne_of_gt (l' _ (List.mem_cons_of_mem _ List.mem_cons_self))
      · exact Nat.ne_of_gt (l' _ (List.mem_cons_of_mem _ (List.mem_cons_of_mem _ List.mem_cons_self)))
    · have := lcip_ind n f hS turn fin r (i + 1) (tl' ++ [y']) (y'.e :: nw') (by lia) ?_ ?_ ?_
      · rw [List.map_append] at this; exact this
      · rw [List.map_append, hv, List.range_succ, List.map_append, List.map_cons, List.map_nil, List.map_cons, List.map_nil, show y'.v = f i from Prod.ext ha hb]
      · intro z hz
        rcases List.mem_append.mp hz with hz | hz
        · exact List.mem_cons_of_mem _ (ht z hz)
        · rw [List.mem_singleton.mp hz]; exact List.mem_cons_self
      · exact fun p hp => List.mem_cons_of_mem _ (hk p hp)
theorem r_lcip {elt : Expr} {x : Str} {scope : Scope} {cl : List (Str × Addr)} {Q : Value → Shared → Prop} {q : Addr} {nw : List (Addr × Obj)} {vs : List Value} {kk : Nat} (f : Nat → Int × Int)
    (hh : A.handled = none) (F : Fr h₀ L s.heap m) (N : News h₀ L s.heap nw) (hq : (q, listOf vs.toArray kk) ∈ nw) (hsz : vs.length ≤ sizeLine)
    (turn : ∀ i v (nw' : List (Addr × Obj)) ys I oI C oC D m₂ (s₁ : Shared) (E' : Value → Shared → Prop), (∃ h tk, s₁ = { s with heap := h, toks := tk }) → i < vs.length → vs.toArray[i]? = some v → (∀ p ∈ nw, p ∈ nw') → NsObj oC m₂ → m₂ x = some v → Fr h₀ L s₁.heap m → News h₀ L s₁.heap ((I, oI) :: (C, oC) :: (D, lst ys) :: nw') →
      wpAny (model prog w) A (eval elt (compEnvC scope cl C env)) (CPEnd h₀ L m ((I, oI) :: (C, oC) :: (D, lst ys) :: nw') (f i).1 (f i).2 s₁) E' s₁)
    (ret : ∀ D (tl' : List TT) (nw' : List (Addr × Obj)) h tk, tl'.map TT.v = (List.range vs.length).map f → (∀ y ∈ tl', y.e ∈ nw') → (∀ p ∈ nw, p ∈ nw') → (∀ p ∈ nw', p.1 ≠ D) → Fr h₀ L h m → News h₀ L h ((D, listOf (tl'.map TT.r).toArray (tl'.map TT.r).length) :: nw') → Q (.ref D) { s with heap := h, toks := tk }) :
    CompSrc prog w A h₀ L m env elt x scope cl (fun s₂ => FinE h₀ L m s₂ Q) (.ref q) s := by
  refine CompSrc.ledger hh F N hq (by rw [List.size_toArray]; exact hsz) fun g => ?_
  rw [List.size_toArray]
  refine lcip_ind (s := { s with heap := g }) (Fin := FinE h₀ L m { s with heap := g } Q) vs.length f (fun nw' hk => .inr ⟨_, hk _ hq, rfl, kk, rfl⟩) turn ?_ vs.length 0 [] nw rfl rfl (fun _ h => (nomatch h)) (fun _ h => h)
  intro tl' nw' hv ht hk D h tk F' N' off
  exact ret D tl' nw' h tk hv ht hk (off_ne off) F' N'
theorem lcpi_ind {elt : Expr} {x x₂ : Str} {scope : Scope} {cl : List (Str × Addr)} {S : List (Addr × Obj) → Prop} {Fin : List Value → List (Addr × Obj) → Prop} {nw : List (Addr × Obj)} (tl : List TT) (f : Int × Int → Int)
    (hS : S nw) (htl : ∀ y ∈ tl, y.e ∈ nw)
    (turn : ∀ (y : TT) ys I oI C oC D m₂ (s₁ : Shared) (E' : Value → Shared → Prop), (∃ h tk, s₁ = { s with heap := h, toks := tk }) → y ∈ tl → NsObj oC m₂ → m₂ x = some (.int y.a y.t) → m₂ x₂ = some (.int y.b y.u) → Fr h₀ L s₁.heap m → News h₀ L s₁.heap ((I, oI) :: (C, oC) :: (D, lst ys) :: nw) →
      wpAny (model prog w) A (eval elt (compEnvC scope cl C env)) (CIEnd h₀ L m ((I, oI) :: (C, oC) :: (D, lst ys) :: nw) (f y.v) s₁) E' s₁)
    (fin : ∀ ys, IntsAre ys ((tl.map TT.v).map f) → Fin ys nw) :
    ∀ (r : List TT) (i : Nat) (ys : List Value), tl.drop i = r → IntsAre ys (((tl.take i).map TT.v).map f) →
      CompRestP prog w A h₀ L m env elt x x₂ scope cl s S (fun i v => (tl.map TT.r).toArray[i]? = some v) Fin r.length i ys nw
  | [], i, ys, hd, hv => by
    refine CompRestP.zero (fin ys ?_)
    have : tl.length ≤ i := List.drop_eq_nil_iff.mp hd
    rw [List.take_of_length_le this] at hv
    exact hv
  | y :: r, i, ys, hd, hv => by
    have hi : i < tl.length := by
      rcases Nat.lt_or_ge i tl.length with h | h
      · exact h
      · rw [List.drop_eq_nil_of_le h] at hd; cases hd
    have hc := List.drop_eq_getElem_cons hi
    rw [hd] at hc
    have hget : tl[i]'hi = y := (List.cons.inj hc).1.symm
    have hdr : tl.drop (i + 1) = r := (List.cons.inj hc).2.symm
    have hyt : y ∈ tl := hget ▸ List.getElem_mem hi
    refine CompRestP.succ fun v hv' => ?_
    have ev : v = y.r := by
      simp only [List.getElem?_toArray, List.getElem?_map, List.getElem?_eq_getElem hi, hget, Option.map_some] at hv'
      exact (Option.some.inj hv').symm
    subst ev
    refine ⟨y.p, _, .int y.a y.t, .int y.b y.u, 0, rfl, htl y hyt, rfl, rfl, ?_⟩
    intro I oI C oC D m₂ h tk E' hC hx hx₂ F N off ne
    refine wpAny_mono (turn y _ I oI C oC D m₂ { s with heap := h, toks := tk } E' ⟨_, _, rfl⟩ hyt hC hx hx₂ F N) (fun z s₂ hz => ?_) fun _ _ e => e
    obtain ⟨t, h', tk', rfl, rfl, F', N'⟩ := hz
    refine CompEnd.intro F' N' nw (fun p hp => hp) off hS ?_
    refine lcpi_ind tl f hS htl turn fin r (i + 1) _ hdr ?_
    rw [List.take_add_one, List.getElem?_eq_getElem hi, hget]
    simp only [Option.toList_some, List.map_append, List.map_cons, List.map_nil]
    exact IntsAre.append hv (.cons _ _ .nil)
theorem r_lcpi {elt : Expr} {x x₂ : Str} {scope : Scope} {cl : List (Str × Addr)} {Q : Value → Shared → Prop} {q : Addr} {nw : List (Addr × Obj)} {kk : Nat} (tl : List TT) (f : Int × Int → Int)
    (hh : A.handled = none) (F : Fr h₀ L s.heap m) (N : News h₀ L s.heap nw) (hq : (q, listOf (tl.map TT.r).toArray kk) ∈ nw) (hsz : tl.length ≤ sizeLine) (htl : ∀ y ∈ tl, y.e ∈ nw)
    (turn : ∀ (y : TT) ys I oI C oC D m₂ (s₁ : Shared) (E' : Value → Shared → Prop), (∃ h tk, s₁ = { s with heap := h, toks := tk }) → y ∈ tl → NsObj oC m₂ → m₂ x = some (.int y.a y.t) → m₂ x₂ = some (.int y.b y.u) → Fr h₀ L s₁.heap m → News h₀ L s₁.heap ((I, oI) :: (C, oC) :: (D, lst ys) :: nw) →
      wpAny (model prog w) A (eval elt (compEnvC scope cl C env)) (CIEnd h₀ L m ((I, oI) :: (C, oC) :: (D, lst ys) :: nw) (f y.v) s₁) E' s₁)
    (ret : ∀ D ys h tk, IntsAre ys ((tl.map TT.v).map f) → (∀ p ∈ nw, p.1 ≠ D) → Fr h₀ L h m → News h₀ L h ((D, listOf ys.toArray ys.length) :: nw) → Q (.ref D) { s with heap := h, toks := tk }) :
    SrcLP prog w A h₀ L m env elt x x₂ scope cl (fun s₂ => FinE h₀ L m s₂ Q) (.ref q) s := by
  refine SrcLP.ledger hh F N hq (by rw [List.size_toArray, List.length_map]; exact hsz) fun g => ?_
  have e : (tl.map TT.r).toArray.size = tl.length := by rw [List.size_toArray, List.length_map]
  rw [e]
  refine lcpi_ind (s := { s with heap := g }) (Fin := FinE h₀ L m { s with heap := g } Q) tl f (Or.inr ⟨_, hq, rfl, kk, rfl⟩) htl turn ?_ tl 0 [] rfl .nil
  intro ys hy D h tk F' N' off
  exact ret D ys h tk hy (off_ne off) F' N'
theorem r_lcpiA {elt : Expr} {x x₂ y : Str} {scope : Scope} {cl : List (Str × Addr)} {Q : Flow → Shared → Prop} {q : Addr} {nw : List (Addr × Obj)} {kk : Nat} (tl : List TT) (f : Int × Int → Int)
    (hh : A.handled = none) (F : Fr h₀ L s.heap m) (N : News h₀ L s.heap nw) (hq : (q, listOf (tl.map TT.r).toArray kk) ∈ nw) (hsz : tl.length ≤ sizeLine) (htl : ∀ y ∈ tl, y.e ∈ nw)
    (turn : ∀ (y : TT) ys I oI C oC D m₂ (s₁ : Shared) (E' : Value → Shared → Prop), (∃ h tk, s₁ = { s with heap := h, toks := tk }) → y ∈ tl → NsObj oC m₂ → m₂ x = some (.int y.a y.t) → m₂ x₂ = some (.int y.b y.u) → Fr h₀ L s₁.heap m → News h₀ L s₁.heap ((I, oI) :: (C, oC) :: (D, lst ys) :: nw) →
      wpAny (model prog w) A (eval elt (compEnvC scope cl C env)) (CIEnd h₀ L m ((I, oI) :: (C, oC) :: (D, lst ys) :: nw) (f y.v) s₁) E' s₁)
    (ret : ∀ D ys h tk, IntsAre ys ((tl.map TT.v).map f) → (∀ p ∈ nw, p.1 ≠ D) → Fr h₀ L h (fun z => if z = y then some (.ref D) else m z) → News h₀ L h ((D, listOf ys.toArray ys.length) :: nw) → Q .next { s with heap := h, toks := tk }) :
    SrcLP prog w A h₀ L m env elt x x₂ scope cl (fun s₂ => FinA h₀ L m s₂ y Q) (.ref q) s := by
  refine SrcLP.ledger hh F N hq (by rw [List.size_toArray, List.length_map]; exact hsz) fun g => ?_
  have e : (tl.map TT.r).toArray.size = tl.length := by rw [List.size_toArray, List.length_map]
  rw [e]
  refine lcpi_ind (s := { s with heap := g }) (Fin := FinA h₀ L m { s with heap := g } y Q) tl f (Or.inr ⟨_, hq, rfl, kk, rfl⟩) htl turn ?_ tl 0 [] rfl .nil
  intro ys hy D h tk F' N' off
  exact ret D ys h tk hy (off_ne off) F' N'
end
end Mine
end
section
open PySem PySem.W PyProof.Rows PySem.Calls PySem.Spec
set_option maxRecDepth 100000
namespace Mine
section
variable {prog : Program} {w : World} {A : Around} {E : Value → Shared → Prop} {s : Shared} {env : Env} {h₀ : Heap} {body : List Stmt} {Q : Flow → Shared → Prop}
noncomputable def WtEnd {σ : Type} (h₀ : Heap) (L : Addr) (G : σ → Led) (R : Led) (ps : σ → List (Str × Value)) (stored : List Str) (m₀ : Str → Option Value) (P : Nat → σ → Prop) (k : Nat) (s₁ s₂ : Shared) : Prop :=
  ∃ (c' : σ) (k' : Nat) (h' : Heap) (tk : Nat) (m' : Str → Option Value) (news' : Led), k' < k ∧ s₂ = { s₁ with heap := h', toks := tk } ∧ Fr h₀ L h' m' ∧ News h₀ L h' news' ∧ (∀ p ∈ G c' ++ R, p ∈ news') ∧
    (∀ p ∈ ps c', m' p.1 = some p.2) ∧ (∀ z, (∀ p ∈ ps c', z ≠ p.1) → stored.contains z = false → m' z = m₀ z) ∧ P k' c'
noncomputable def WtPost {σ : Type} (h₀ : Heap) (L : Addr) (G : σ → Led) (R : Led) (ps : σ → List (Str × Value)) (stored : List Str) (m₀ : Str → Option Value) (P : Nat → σ → Prop) (k : Nat) (s₁ : Shared) (Q : Flow → Shared → Prop) (f : Flow) (s₂ : Shared) : Prop :=
  match f with
  | .ret v => Q (.ret v) s₂
  | .brk => Q .next s₂
  | _ => WtEnd h₀ L G R ps stored m₀ P k s₁ s₂
theorem WtEnd.intro {σ : Type} {h₀ h' : Heap} {L : Addr} {G : σ → Led} {R : Led} {ps : σ → List (Str × Value)} {stored : List Str} {m₀ m' : Str → Option Value} {P : Nat → σ → Prop} {k tk : Nat} {s₁ : Shared} {news' : Led} (c' : σ) (k' : Nat)
    (F : Fr h₀ L h' m') (N : News h₀ L h' news') (hn : ∀ p ∈ G c' ++ R, p ∈ news') (hk : ∀ p ∈ ps c', m' p.1 = some p.2) (hr : ∀ z, (∀ p ∈ ps c', z ≠ p.1) → stored.contains z = false → m' z = m₀ z) (hlt : k' < k) (hp : P k' c') :
    WtEnd h₀ L G R ps stored m₀ P k s₁ { s₁ with heap := h', toks := tk } := ⟨c', k', h', tk, m', news', hlt, rfl, F, N, hn, hk, hr, hp⟩
theorem while_rest {σ : Type} {test : PySem.Expr} {m₀ : Str → Option Value} (G : σ → Led) (R : Led) (ps : σ → List (Str × Value)) (stored : List Str) (P : Nat → σ → Prop) (hE : PassesOwn (model prog w) A env E)
    (turn : ∀ (k : Nat) (c : σ) (u : Str → Option Value) (s₁ : Shared), (∃ h tk, s₁ = { s with heap := h, toks := tk }) → P k c → Fr h₀ env.locals s₁.heap (lpM ps stored u m₀ c) → News h₀ env.locals s₁.heap (G c ++ R) →
      wpAny (model prog w) A (isTrue test env (eval test env)) (fun b s₂ => WhlIf b (wpAny (model prog w) A (execs body env) (WtPost h₀ env.locals G R ps stored m₀ P k s₁ Q) E s₂) (wpAny (model prog w) A (execs [] env) Q E s₂)) E s₁) :
    ∀ (n k : Nat), k < n → ∀ (c : σ) (s₁ : Shared) (m' : Str → Option Value), (∃ h tk, s₁ = { s with heap := h, toks := tk }) → Fr h₀ env.locals s₁.heap m' → News h₀ env.locals s₁.heap (G c ++ R) →
      (∀ p ∈ ps c, m' p.1 = some p.2) → (∀ z, (∀ p ∈ ps c, z ≠ p.1) → stored.contains z = false → m' z = m₀ z) → P k c → WhlRest prog w A E env test body [] Q 0 s₁
  | 0, k, hk, _, _, _, _, _, _, _, _, _ => absurd hk (Nat.not_lt_zero k)
  | n + 1, k, hk, c, s₁, m', hs, F, N, h1, h2, hP => by
    refine whl_turn (k := 0) hE ?_
    refine wpAny_mono (turn k c m' s₁ hs hP (ksw_fr h1 h2 F) N) (fun b s₂ h₂ => ?_) fun _ _ e => e
    cases b with
    | false => exact h₂
    | true =>
      have h₃ : wpAny (model prog w) A (execs body env) (WtPost h₀ env.locals G R ps stored m₀ P k s₁ Q) E s₂ := by
        unfold WhlIf at h₂
        rw [if_pos rfl] at h₂
        exact h₂
      refine WhlIf.yes rfl (wpAny_mono h₃ (fun f s₃ h₄ => ?_) fun _ _ e => e)
      have next : WtEnd h₀ env.locals G R ps stored m₀ P k s₁ s₃ → WhlRest prog w A E env test body [] Q 0 s₃ := by
        rintro ⟨c', k', h', tk, m₅, news', hlt, rfl, F', N', hn, hk', hr, hp⟩
        obtain ⟨h₁, t₁, rfl⟩ := hs
        exact while_rest G R ps stored P hE turn n k' (by lia) c' _ m₅ ⟨_, _, rfl⟩ F' (fun p hp => N' p (hn p hp)) hk' hr hp
      cases f with
      | next => exact next h₄
      | cont => exact next h₄
      | brk => exact h₄
      | ret v => exact h₄
theorem r_while {σ : Type} {test : PySem.Expr} {pos : Pos} {m₀ : Str → Option Value} (G : σ → Led) (R : Led) (ps : σ → List (Str × Value)) (stored : List Str) (P : Nat → σ → Prop) (k₀ : Nat) (c₀ : σ)
    (F : Fr h₀ env.locals s.heap m₀) (N : News h₀ env.locals s.heap (G c₀ ++ R)) (hk : ∀ p ∈ ps c₀, m₀ p.1 = some p.2) (hp : P k₀ c₀)
    (turn : ∀ (k : Nat) (c : σ) (u : Str → Option Value) (s₁ : Shared), (∃ h tk, s₁ = { s with heap := h, toks := tk }) → P k c → Fr h₀ env.locals s₁.heap (lpM ps stored u m₀ c) → News h₀ env.locals s₁.heap (G c ++ R) →
      wpAny (model prog w) A (isTrue test env (eval test env)) (fun b s₂ => WhlIf b (wpAny (model prog w) A (execs body env) (WtPost h₀ env.locals G R ps stored m₀ P k s₁ Q) E s₂) (wpAny (model prog w) A (execs [] env) Q E s₂)) E s₁)
    (hE : PassesOwn (model prog w) A env E := by passes_own) :
    wpAny (model prog w) A (exec (.While test body [] pos) env) Q E s :=
  whl_start 0 (while_rest G R ps stored P hE turn (k₀ + 1) k₀ (Nat.lt_succ_self _) c₀ s m₀ ⟨s.heap, s.toks, rfl⟩ F N hk (fun _ _ _ => rfl) hp)
end
section
variable {prog : Program} {w : World} {A : Around} {E : Value → Shared → Prop} {s : Shared}
theorem sort_one {a : Addr} {v : Value} {n : Nat} {P : PySem.Fin → Shared → Prop} (ho : s.heap.get? a = some (seqObj "list" [v].toArray n))
    (h : P (.done (.ret .none)) { s with heap := sortedHeap s.heap a [v] #[v] }) : wpAny (model prog w) A (Builtin.«list.sort» ⟨[.ref a], []⟩) P E s := by
  rw [list_sort_plain]
  have ha : a < s.heap.objs.size := Heap.lt_size ho
  refine wpAny_bind (listItems_at ho rfl ?_)
  refine wpAny_bind (listUpdate_at ho rfl ?_)
  obtain ⟨e1, ho1⟩ : ∃ e1, (s.heap.update a (Obj.mapSeq fun _ => #[])).get? a = some (seqObj "list" #[] e1) := ⟨_, get?_update_seq ho (fun _ => #[])⟩
  refine wpAny_bind (seqEpoch_at ho1 rfl ?_)
  refine wpAny_bind (wpAny_newTuple ?_)
  refine wpAny_bind (wpAny_newList ?_)
  refine wpAny_holding ?_
  have ho6 : (((s.heap.update a (Obj.mapSeq fun _ => #[])).push (seqObj "tuple" [v].toArray 0)).push (seqObj "list" #[] 0)).get? a = some (seqObj "list" #[] e1) := by
    rw [Heap.get?_push_ne _ _ _ (by rw [size_push', Heap.size_update]; exact Nat.ne_of_lt (Nat.lt_succ_of_lt ha)), Heap.get?_push_ne _ _ _ (by rw [Heap.size_update]; exact Nat.ne_of_lt ha)]
    exact ho1
  show wpAny (model prog w) A _ P E { s with heap := ((s.heap.update a (Obj.mapSeq fun _ => #[])).push (seqObj "tuple" [v].toArray 0)).push (seqObj "list" #[] 0) }
  dsimp only
  have h2 : [v].toArray.size < 2 := Nat.lt_succ_self 1
  rw [if_pos h2, if_pos h2]
  refine wpAny_bind (wpAny_pure ?_)
  rw [StateT.run_pure]
  refine wpAny_bind (wpAny_pure ?_)
  dsimp only
  refine wpAny_bind (seqEpoch_at ho6 rfl ?_)
  have hout : (arrOf (SortSt.mk' general' ([v].toArray.zip [v].toArray) #[] 7 none)).map (·.2) = #[v] := by
    show Array.map (·.2) ([v].toArray.zip [v].toArray) = #[v]
    simp
  rw [hout]
  refine wpAny_bind (listUpdate_at ho6 rfl ?_)
  simp only [bne_self_eq_false, Bool.false_eq_true, if_false]
  exact wpAny_pure h
theorem sorted_one {l : Addr} {v : Value} {Q : Value → Shared → Prop} (hl : s.heap.IsList l [v].toArray)
    (h : Q (.ref (s.heap.objs.size + 1)) { s with heap := sortedAll s.heap [v] #[v] }) : wpAny (model prog w) A (call (.builtin "sorted") [.ref l]) Q E s := by
  refine Calls.call_function_entry kind_sorted plain_sorted entry_sorted (args_sorted1 _) ?_
  unfold Builtin.«sorted»
  refine wpAny_bind (m := checkCount "sorted" 1 1 _) (wpAny_pure ?_)
  refine wpAny_bind (collect_list hl ?_)
  refine wpAny_bind (wpAny_newList ?_)
  have hsz : ((s.heap.push (seqObj "list" #[] 0)).update s.heap.objs.size (Obj.mapSeq (· ++ [v].toArray))).objs.size = s.heap.objs.size + 1 := by
    rw [Heap.size_update, size_push']
  have hoL : (((s.heap.push (seqObj "list" #[] 0)).update s.heap.objs.size (Obj.mapSeq (· ++ [v].toArray))).push (seqObj "list" [v].toArray 0)).get? (s.heap.objs.size + 1) = some (seqObj "list" [v].toArray 0) := by
    rw [← hsz]; exact Heap.get?_push_size _ rfl
  show wpAny _ _ _ _ _ { s with heap := ((s.heap.push (seqObj "list" #[] 0)).update s.heap.objs.size (Obj.mapSeq (· ++ [v].toArray))).push (seqObj "list" [v].toArray 0) }
  rw [hsz]
  refine wpAny_bind (wpAny_holding (wpAny_call_entry slot_list_sort ⟨_, hoL, rfl⟩ entry_list_sort (sort_one hoL ⟨_, rfl, ?_⟩) (args_list_sort _)))
  exact wpAny_pure ⟨_, rfl, h⟩
theorem r_sorted_pairs {h₀ : Heap} {L q : Addr} {m : Str → Option Value} {nw : List (Addr × Obj)} {kk : Nat} {tl : List TT} {Q : Value → Shared → Prop} (F : Fr h₀ L s.heap m) (N : News h₀ L s.heap nw) (hq : (q, listOf (tl.map TT.r).toArray kk) ∈ nw) (htl : ∀ y ∈ tl, y.e ∈ nw) (h1 : 1 ≤ tl.length) (h64 : tl.length < 64) (hn : (tl.map fun y => y.b).Nodup)
    (h : ∀ D (tl' : List TT) c h', tl'.Perm tl → tl'.Pairwise (fun x y => lexLt x.v y.v = true) → Fr h₀ L h' m → News h₀ L h' ((D, listOf (tl'.map TT.r).toArray c) :: nw) → (∀ p ∈ nw, p.1 < D) → Q (.ref D) { s with heap := h' }) :
    wpAny (model prog w) A (call (.builtin "sorted") [.ref q]) Q E s := by
  by_cases h2 : 2 ≤ tl.length
  · exact r_sorted_tt F N hq htl h2 h64 hn h
  · match tl, h1, h2, hq, h with
    | [y], _, _, hq, h =>
      have hol : s.heap.IsList q [y.r].toArray := ⟨_, (N _ hq).1, rfl, kk, rfl⟩
      refine sorted_one hol ?_
      obtain ⟨c, hc⟩ := sortedAll_at s.heap [y.r] #[y.r]
      exact h (s.heap.objs.size + 1) [y] c _ (.refl _) (List.pairwise_singleton _ _) (F.kept fun b o e => sortedAll_old e) (News.kept_cons F N (fun b o e => sortedAll_old e) (Nat.le_succ _) hc) fun p hp => Nat.lt_succ_of_lt (Heap.lt_size (N p hp).1)
    | _ :: _ :: _, _, h2, _, _ => exact absurd (by simp) h2
end
end Mine
end
section
open PySem PySem.W PyProof.Rows PySem.Calls
namespace Mine
/-! the building of a league -/
noncomputable def decrI (wins : List Int) (xs : List Int) : List Int := xs.foldl (fun w x => w.set x.toNat (w.getD x.toNat 0 - 1)) wins
theorem decrI_snoc (wins : List Int) (xs : List Int) (x : Int) : decrI wins (xs ++ [x]) = (decrI wins xs).set x.toNat ((decrI wins xs).getD x.toNat 0 - 1) := by
  unfold decrI; rw [List.foldl_append]; rfl
theorem decrI_len : ∀ (xs wins : List Int), (decrI wins xs).length = wins.length
  | [], _ => rfl
  | x :: r, wins => by
    show (decrI (wins.set x.toNat (wins.getD x.toNat 0 - 1)) r).length = _
    rw [decrI_len r, List.length_set]
noncomputable def LgSorted (wins : List Int) (l : List Nat) : Prop := l.Pairwise (fun x y => lexLt (wins.getD x 0, (x : Int)) (wins.getD y 0, (y : Int)) = true)
inductive LgR (row : List Int) : List Int → List Nat → List (Int × Int) → Prop
  | start : LgR row row (List.range row.length) []
  | step {wins : List Int} {left left1 : List Nat} {ts : List (Int × Int)} {FI : Int} {L5 : List Int} (h : LgR row wins left ts) (hp : left1.Perm left) (hs : LgSorted wins left1) (h0 : 0 < left.length)
      (h5 : L5 = (left1.map fun (x : Nat) => (x : Int)).dropLast) (hF : (left1.map fun (x : Nat) => (x : Int)).getLastD 0 = FI) (g0 : 0 ≤ wins.getD FI.toNat 0) (g1 : wins.getD FI.toNat 0 ≤ (L5.length : Int)) :
      LgR row (decrI wins (L5.drop (wins.getD FI.toNat 0).toNat)) left1.dropLast (ts ++ (L5.take (wins.getD FI.toNat 0).toNat).map (fun x => (FI, x)) ++ (L5.drop (wins.getD FI.toNat 0).toNat).map (fun x => (x, FI)))
noncomputable def LgDone (row : List Int) (ts : List (Int × Int)) : Prop :=
  (∃ wins, LgR row wins [] ts) ∨ (ts = [] ∧ ∃ (wins : List Int) (left left1 : List Nat) (ts0 : List (Int × Int)) (FI : Int), LgR row wins left ts0 ∧ left1.Perm left ∧ LgSorted wins left1 ∧ 0 < left.length ∧
    (left1.map fun (x : Nat) => (x : Int)).getLastD 0 = FI ∧ ¬ (0 ≤ wins.getD FI.toNat 0 ∧ wins.getD FI.toNat 0 ≤ (((left1.map fun (x : Nat) => (x : Int)).dropLast).length : Int)))
structure LgB (row wins : List Int) (left : List Nat) (ts : List (Int × Int)) : Prop where
  r : LgR row wins left ts
  wl : wins.length = row.length
  nd : left.Nodup
  lt : ∀ x ∈ left, x < row.length
  tl : ts.length + 8 * left.length ≤ 64
  ll : left.length ≤ row.length
structure LS where
  wv : List Value
  wk : Nat
  ll : Addr
  lv : List Value
  lk : Nat
  tl : List TT
  bk : Nat
theorem whl_split {b : Bool} {T F : Prop} (h1 : b = true → T) (h2 : b = false → F) : WhlIf b T F := by
  cases b with
  | true => exact WhlIf.yes rfl (h1 rfl)
  | false => exact WhlIf.no rfl (h2 rfl)
end Mine
namespace Mine
theorem lg_ints {us : List Value} {n : Nat} {a : Int} (h : IntsAre us (rangeKs a n)) (ha : a = 0 := by rfl) : IntsAre us ((List.range n).map fun (x : Nat) => (x : Int)) := by
  subst ha
  unfold rangeKs at h
  have e : (fun (i : Nat) => (0 : Int) + (i : Int)) = fun (i : Nat) => (i : Int) := by funext i; lia
  rw [e] at h
  exact h
theorem lg_start {row : List Int} {n : Nat} (h8 : row.length ≤ 8) (hn : n = row.length := by rfl) : LgB row row (List.range n) (([] : List TT).map TT.v) := by
  subst hn
  exact ⟨.start, rfl, List.nodup_range, fun x hx => List.mem_range.mp hx, by rw [List.length_range]; simp only [List.map_nil, List.length_nil]; lia, by rw [List.length_range]; exact Nat.le_refl _⟩
theorem LgB.next {row wins : List Int} {left left1 : List Nat} {ts : List (Int × Int)} {FI : Int} {L5 : List Int} (H : LgB row wins left ts) (h8 : row.length ≤ 8) (hp : left1.Perm left) (hs : LgSorted wins left1) (h0 : 0 < left.length)
      (h5 : L5 = (left1.map fun (x : Nat) => (x : Int)).dropLast) (hF : (left1.map fun (x : Nat) => (x : Int)).getLastD 0 = FI) (g0 : 0 ≤ wins.getD FI.toNat 0) (g1 : wins.getD FI.toNat 0 ≤ (L5.length : Int)) :
      LgB row (decrI wins (L5.drop (wins.getD FI.toNat 0).toNat)) left1.dropLast (ts ++ (L5.take (wins.getD FI.toNat 0).toNat).map (fun x => (FI, x)) ++ (L5.drop (wins.getD FI.toNat 0).toNat).map (fun x => (x, FI))) := by
  have hl := hp.length_eq
  have hd : left1.dropLast.length = left1.length - 1 := List.length_dropLast
  have e5 : L5.length = left1.length - 1 := by rw [h5, List.length_dropLast, List.length_map]
  have h1 := H.ll
  have h2 := H.tl
  refine ⟨.step H.r hp hs h0 h5 hF g0 g1, by rw [decrI_len, H.wl], (hp.nodup_iff.mpr H.nd).sublist (List.dropLast_sublist _), fun x hx => H.lt x (hp.mem_iff.mp ((List.dropLast_sublist _).subset hx)), ?_, by lia⟩
  simp only [List.length_append, List.length_map, List.length_take, List.length_drop]
  lia
theorem lg_idx {row wins : List Int} {left left1 : List Nat} {ts : List (Int × Int)} {L5 xs : List Int} {y i : Nat} (H : LgB row wins left ts) (h8 : row.length ≤ 8) (hp : left1.Perm left) (h5 : L5 = (left1.map fun (x : Nat) => (x : Int)).dropLast) (hi : i < (L5.drop y).length) :
    0 ≤ (L5.drop y).getD i 0 ∧ (L5.drop y).getD i 0 < ((decrI wins xs).length : Int) ∧ (L5.drop y).getD i 0 < 2 ^ 63 ∧ ((L5.drop y).getD i 0).toNat < (decrI wins xs).length := by
  have h1 : (L5.drop y).getD i 0 ∈ left1.map fun (x : Nat) => (x : Int) := by
    rw [List.getD_eq_getElem?_getD, List.getElem?_eq_getElem hi]
    have h2 : ∀ z ∈ L5, z ∈ left1.map fun (x : Nat) => (x : Int) := by rw [h5]; exact (List.dropLast_sublist _).subset
    exact h2 _ (List.mem_of_mem_drop (List.getElem_mem hi))
  obtain ⟨x, hx, e⟩ := List.mem_map.mp h1
  rw [← e]
  have := H.lt x (hp.mem_iff.mp hx)
  have h2 := H.wl
  rw [decrI_len, show (2 : Int) ^ 63 = 9223372036854775808 by decide]
  lia
theorem lg_first {row wins : List Int} {left left1 : List Nat} {ts : List (Int × Int)} {FI : Int} (H : LgB row wins left ts) (h8 : row.length ≤ 8) (hp : left1.Perm left) (h0 : 0 < left.length) (hF : (left1.map fun (x : Nat) => (x : Int)).getLastD 0 = FI) :
    0 ≤ FI ∧ FI.toNat < wins.length ∧ FI < 2 ^ 63 := by
  have hl := hp.length_eq
  have hne : (left1.map fun (x : Nat) => (x : Int)) ≠ [] := by
    intro e
    have := congrArg List.length e
    rw [List.length_map] at this
    simp at this
    rw [this] at hl
    simp at hl; lia
  have h1 : FI ∈ left1.map fun (x : Nat) => (x : Int) := by
    rw [← hF, List.getLastD_eq_getLast?, List.getLast?_eq_some_getLast hne]
    exact List.getLast_mem hne
  obtain ⟨x, hx, e⟩ := List.mem_map.mp h1
  rw [← e]
  have := H.lt x (hp.mem_iff.mp hx)
  have h2 := H.wl
  rw [show (2 : Int) ^ 63 = 9223372036854775808 by decide]
  lia
theorem lg_n {a b : Nat} (h : a = b) : ((a : Int) - 0).toNat = b := by lia
section
variable {prog : Program} {w : World} {A : Around} {E : Value → Shared → Prop} {s : Shared} {h₀ : Heap} {L a b : Addr} {m : Str → Option Value} {nw : List (Addr × Obj)} {xs : List Value} {ns : List Int} {k1 k2 : Nat}
theorem r_ne_nil {Q : Value → Shared → Prop} (N : News h₀ L s.heap nw) (ha : (a, listOf xs.toArray k1) ∈ nw) (hb : (b, listOf #[] k2) ∈ nw) (hi : IntsAre xs ns) (hu : A.units + 64 < cLine) (h : Q (.bool (!decide (ns = []))) s) :
    wpAny (model prog w) A (compareOp .NotEq (.ref a) (.ref b)) Q E s :=
  ke_ne_ints (ys := []) (ms := []) ⟨_, (N _ ha).1, rfl, k1, rfl⟩ ⟨_, (N _ hb).1, rfl, k2, rfl⟩ hi .nil hu h
end
theorem at_natL {vs : List Value} {xs : List Nat} {i : Nat} {v : Value} (hI : IntsAre vs (xs.map fun (x : Nat) => (x : Int))) (hv : vs.toArray[i]? = some v) : ∃ t, v = .int ((xs.getD i 0 : Nat) : Int) t ∧ i < xs.length := by
  have hv' : vs[i]? = some v := by simpa using hv
  have hi : i < vs.length := by
    rcases Nat.lt_or_ge i vs.length with h1 | h1
    · exact h1
    · rw [List.getElem?_eq_none h1] at hv'; cases hv'
  obtain ⟨t, e⟩ := nat_at hI hv' hi
  exact ⟨t, e, by rw [← ints_len hI]; exact hi⟩
theorem LgB.len8 {row wins : List Int} {left : List Nat} {ts : List (Int × Int)} (H : LgB row wins left ts) (h8 : row.length ≤ 8) : left.length ≤ 8 := by
  exact Nat.le_trans H.ll h8
theorem getD_mem' {xs : List Nat} {i : Nat} (hi : i < xs.length) : xs.getD i 0 ∈ xs := by
  rw [List.getD_eq_getElem?_getD, List.getElem?_eq_getElem hi]
  exact List.getElem_mem hi
theorem map_getD_rangeN (left : List Nat) (f : Nat → Int × Int) : (List.range left.length).map (fun i => f (left.getD i 0)) = left.map f := by
  refine List.ext_getElem (by simp) fun i h1 h2 => ?_
  simp only [List.getElem_map, List.getElem_range]
  rw [List.length_map] at h2
  rw [List.getD_eq_getElem?_getD, List.getElem?_eq_getElem h2]; rfl
theorem lg_sorted {wins : List Int} {left : List Nat} {n : Nat} {tl8 tl9 : List TT} (hn : n = left.length) (hv : tl8.map TT.v = (List.range n).map fun i => (wins.getD (left.getD i 0) 0, ((left.getD i 0 : Nat) : Int))) (hp : tl9.Perm tl8) (hs : tl9.Pairwise (fun x y => lexLt x.v y.v = true)) :
    ∃ left1 : List Nat, (tl9.map TT.v).map (fun q => q.2) = left1.map (fun (x : Nat) => (x : Int)) ∧ left1.Perm left ∧ LgSorted wins left1 := by
  subst hn
  rw [map_getD_rangeN left fun x => (wins.getD x 0, (x : Int))] at hv
  have h1 : (tl9.map TT.v).Perm (left.map fun x => (wins.getD x 0, (x : Int))) := hv ▸ hp.map TT.v
  have hs' : (tl9.map TT.v).Pairwise (fun x y => lexLt x y = true) := List.pairwise_map.mpr hs
  generalize tl9.map TT.v = q9 at h1 hs' ⊢
  have h2 : ∀ q ∈ q9, q = (wins.getD q.2.toNat 0, ((q.2.toNat : Nat) : Int)) := fun q hq => by
    obtain ⟨x, _, rfl⟩ := List.mem_map.mp (h1.mem_iff.mp hq)
    simp
  refine ⟨q9.map (fun q => q.2.toNat), ?_, ?_, ?_⟩
  · rw [List.map_map]
    exact List.map_congr_left fun q hq => congrArg Prod.snd (h2 q hq)
  · have := h1.map fun q : Int × Int => q.2.toNat
    rw [List.map_map] at this
    have e : ((fun q : Int × Int => q.2.toNat) ∘ fun (x : Nat) => (wins.getD x 0, (x : Int))) = id := by funext x; simp
    rw [e, List.map_id] at this
    exact this
  · unfold LgSorted
    rw [List.pairwise_map]
    refine List.Pairwise.imp_of_mem (fun {x y} hx hy h => ?_) hs'
    rw [← h2 _ hx, ← h2 _ hy]; exact h
theorem lg_vl {wins : List Int} {left : List Nat} {n : Nat} {tl8 : List TT} (hv : tl8.map TT.v = (List.range n).map fun i => (wins.getD (left.getD i 0) 0, ((left.getD i 0 : Nat) : Int))) : tl8.length = n := by
  have := congrArg List.length hv
  rw [List.length_map, List.length_map, List.length_range] at this
  exact this
theorem lg_len1 {wins : List Int} {left : List Nat} {n : Nat} {tl8 : List TT} (hv : tl8.map TT.v = (List.range n).map fun i => (wins.getD (left.getD i 0) 0, ((left.getD i 0 : Nat) : Int)))
    (hb : (!decide (left.map (fun (x : Nat) => (x : Int)) = [])) = true) (hn : n = left.length) : 1 ≤ tl8.length := by
  rw [lg_vl hv, hn]
  cases left with
  | nil => simp at hb
  | cons x r => simp
theorem lg_len64 {wins : List Int} {left : List Nat} {n : Nat} {tl8 : List TT} (hv : tl8.map TT.v = (List.range n).map fun i => (wins.getD (left.getD i 0) 0, ((left.getD i 0 : Nat) : Int))) (hn : n < 64) : tl8.length < 64 := by
  rw [lg_vl hv]; exact hn
theorem lg_nod {wins : List Int} {left : List Nat} {n : Nat} {tl8 : List TT} (hv : tl8.map TT.v = (List.range n).map fun i => (wins.getD (left.getD i 0) 0, ((left.getD i 0 : Nat) : Int))) (hn : n = left.length) (hd : left.Nodup) : (tl8.map fun y => y.b).Nodup := by
  subst hn
  rw [map_getD_rangeN left fun x => (wins.getD x 0, (x : Int))] at hv
  have e : (tl8.map fun y => y.b) = (tl8.map TT.v).map (fun q => q.2) := by rw [List.map_map]; rfl
  rw [e, hv, List.map_map]
  exact List.Pairwise.map _ (fun a b hab => by
    intro e
    exact hab (Int.ofNat.inj e)) hd
theorem lg_pos {left : List Nat} (hb : (!decide (left.map (fun (x : Nat) => (x : Int)) = [])) = true) : 0 < left.length := by
  cases left with
  | nil => simp at hb
  | cons x r => simp
theorem lg_off {D a b : Addr} {o o' : Obj} {nw : List (Addr × Obj)} (h1 : (a : Nat) ≠ D) (h2 : (b : Nat) ≠ D) (h3 : ∀ p ∈ nw, p.1 ≠ D) : ∀ p ∈ (a, o) :: (b, o') :: nw, p.1 ≠ D := by
  intro p hp
  rcases List.mem_cons.mp hp with rfl | hp
  · exact h1
  · rcases List.mem_cons.mp hp with rfl | hp
    · exact h2
    · exact h3 p hp
section
variable {prog : Program} {w : World} {A : Around} {E : Value → Shared → Prop} {s : Shared} {h₀ : Heap} {L l : Addr} {m : Str → Option Value} {nw : List (Addr × Obj)} {value slice : PySem.Expr} {vs : List Value} {ns : List Int} {k : Nat} {y : Int} {t : Tok} {Q : Value → Shared → Prop}
theorem r_upto (F : Fr h₀ L s.heap m) (N : News h₀ L s.heap nw) (hm : (l, listOf vs.toArray k) ∈ nw) (hi : IntsAre vs ns) (h0 : 0 ≤ y) (hz : vs.length ≤ sizeLine)
    (h : ∀ D ws h', Fr h₀ L h' m → News h₀ L h' ((D, listOf (List.toArray ws) 0) :: nw) → (∀ p ∈ nw, p.1 < D) → IntsAre ws (ns.take y.toNat) → Q (.ref D) { s with heap := h' })
    (hs : subscripted slice false (.ref l) (.ref s.heap.objs.size) = operate [.ref s.heap.objs.size, .ref l] (getItem (.ref l) (.ref s.heap.objs.size))) (ht : ∀ r, letTemporaryGo value (.ref l) r = pure ()) :
    wpAny (model prog w) A (subscriptTail value slice (.ref l) (.ref s.heap.objs.size)) Q E { s with heap := s.heap.push { cls := .type "slice", data := .fields #[.none, .int y t, .none] } } :=
  kmk_slice_ints F N ⟨_, (N _ hm).1, rfl, k, rfl⟩ .none (.int y t) hi (kmk_upto hi h0) rfl (fun D ws h' F' N' l1 hI _ _ => h D ws h' F' N' l1 hI) hs ht (by rw [List.size_toArray]; exact hz)
theorem r_from (F : Fr h₀ L s.heap m) (N : News h₀ L s.heap nw) (hm : (l, listOf vs.toArray k) ∈ nw) (hi : IntsAre vs ns) (h0 : 0 ≤ y) (hz : vs.length ≤ sizeLine)
    (h : ∀ D ws h', Fr h₀ L h' m → News h₀ L h' ((D, listOf (List.toArray ws) 0) :: nw) → (∀ p ∈ nw, p.1 < D) → IntsAre ws (ns.drop y.toNat) → Q (.ref D) { s with heap := h' })
    (hs : subscripted slice false (.ref l) (.ref s.heap.objs.size) = operate [.ref s.heap.objs.size, .ref l] (getItem (.ref l) (.ref s.heap.objs.size))) (ht : ∀ r, letTemporaryGo value (.ref l) r = pure ()) :
    wpAny (model prog w) A (subscriptTail value slice (.ref l) (.ref s.heap.objs.size)) Q E { s with heap := s.heap.push { cls := .type "slice", data := .fields #[.int y t, .none, .none] } } :=
  kmk_slice_ints F N ⟨_, (N _ hm).1, rfl, k, rfl⟩ (.int y t) .none hi (kmk_from hi h0) rfl (fun D ws h' F' N' l1 hI _ _ => h D ws h' F' N' l1 hI) hs ht (by rw [List.size_toArray]; exact hz)
end
theorem at_int {vs : List Value} {ns : List Int} {i : Nat} {v : Value} (hI : IntsAre vs ns) (hv : vs[i]? = some v) : ∃ t, v = .int (ns.getD i 0) t ∧ i < ns.length := by
  have hi : i < vs.length := by
    rcases Nat.lt_or_ge i vs.length with h1 | h1
    · exact h1
    · rw [List.getElem?_eq_none h1] at hv; cases hv
  rw [hI.length] at hi
  obtain ⟨t, e⟩ := ints_at hI i hi
  rw [hv] at e
  exact ⟨t, Option.some.inj e, hi⟩
theorem lg_mem1 {W : List (Addr × Obj)} {tl : List TT} {a b c d e : Addr × Obj} {news : List (Addr × Obj)} (ha : a ∈ W) (hT : ∀ p ∈ tl.map TT.e ++ (e :: news), p ∈ W) (hb : b ∈ W) (hc : c ∈ W) (hd : d ∈ W) :
    ∀ p ∈ (a :: tl.map TT.e) ++ (b :: c :: d :: e :: news), p ∈ W := by
  intro p hp
  rcases List.mem_append.mp hp with hp | hp
  · rcases List.mem_cons.mp hp with rfl | hp
    · exact ha
    · exact hT p (List.mem_append_left _ hp)
  · rcases List.mem_cons.mp hp with rfl | hp
    · exact hb
    rcases List.mem_cons.mp hp with rfl | hp
    · exact hc
    rcases List.mem_cons.mp hp with rfl | hp
    · exact hd
    · exact hT p (List.mem_append_right _ hp)
theorem lg_end1 {W R T : List (Addr × Obj)} {tl : List TT} {x : TT} {lb : Addr} {k : Nat} (hl : (lb, listOf (tl.map TT.r ++ [x.r]).toArray k) ∈ W) (hT : ∀ p ∈ T, p ∈ W) (hTe : T = tl.map TT.e ++ R) (hx : x.e ∈ W) :
    ∀ p ∈ ((lb, listOf ((tl ++ [x]).map TT.r).toArray k) :: (tl ++ [x]).map TT.e) ++ R, p ∈ W := by
  intro p hp
  rcases List.mem_append.mp hp with hp | hp
  · rcases List.mem_cons.mp hp with rfl | hp
    · rw [List.map_append]; exact hl
    · obtain ⟨y, hy, rfl⟩ := List.mem_map.mp hp
      rcases List.mem_append.mp hy with hy | hy
      · exact hT _ (hTe ▸ List.mem_append_left _ (List.mem_map_of_mem hy))
      · rw [List.mem_singleton.mp hy]; exact hx
  · exact hT _ (hTe ▸ List.mem_append_right _ hp)
theorem lg_kind1 {tl : List TT} {x : TT} {lb : Addr} {it : Obj} {xs : Array Value} {k : Nat} (h : itKind it) : ∀ p ∈ (lb, listOf xs k) :: (tl ++ [x]).map TT.e, p.2 ≠ it := by
  intro p hp
  rcases List.mem_cons.mp hp with rfl | hp
  · exact ne_it_list h rfl
  · obtain ⟨y, _, rfl⟩ := List.mem_map.mp hp
    exact ne_it_tuple h rfl
theorem lg_step1 {ts0 : List (Int × Int)} {tl : List TT} {x : TT} {ns : List Int} {i : Nat} {f : Int → Int × Int} (h : tl.map TT.v = ts0 ++ (ns.take i).map f) (hi : i < ns.length) (hx : x.v = f (ns.getD i 0)) :
    (tl ++ [x]).map TT.v = ts0 ++ (ns.take (i + 1)).map f := by
  rw [List.map_append, h, take_snoc ns 0 hi, List.map_append, List.append_assoc]
  simp [hx]
theorem lg_news1 {h₀ h : Heap} {L : Addr} {a4 a6 a9 a8 a d e : Addr × Obj} {nw8 news : List (Addr × Obj)} {tl : List TT} (N : News h₀ L h (a4 :: a6 :: a9 :: a8 :: nw8)) (ha : a ∈ nw8) (hT : ∀ p ∈ tl.map TT.e ++ (e :: news), p ∈ nw8) (hd : d ∈ nw8) :
    News h₀ L h ((a :: tl.map TT.e) ++ (a4 :: a6 :: d :: e :: news)) := fun p hp => N p (by
  have up : ∀ q ∈ nw8, q ∈ a4 :: a6 :: a9 :: a8 :: nw8 := fun q hq => List.mem_cons_of_mem _ (List.mem_cons_of_mem _ (List.mem_cons_of_mem _ (List.mem_cons_of_mem _ hq)))
  exact lg_mem1 (up _ ha) (fun q hq => up q (hT q hq)) List.mem_cons_self (List.mem_cons_of_mem _ List.mem_cons_self) (up _ hd) p hp)
theorem news_names {h₀ h : Heap} {L a b c : Addr} {oa ob oc : Obj} {r : List (Addr × Obj)} (_ : News h₀ L h ((a, oa) :: (b, ob) :: (c, oc) :: r)) : (∃ x, x = a) ∧ ∃ y, y = c := ⟨⟨a, rfl⟩, ⟨c, rfl⟩⟩
theorem lg_apart1 {h₀ h : Heap} {L lb d4 d6 lw c : Addr} {o4 o6 ow oc ob ib : Obj} {I : Addr} {xs : List Value} {k : Nat} {tl1 : List TT} {T news nw8 : List (Addr × Obj)} (N : News h₀ L h ((I, ib) :: (lb, listOf xs.toArray k) :: T)) (hT : T = tl1.map TT.e ++ ((d4, o4) :: (d6, o6) :: (lw, ow) :: (c, oc) :: news))
    (hb : (lb, ob) ∈ nw8) (h4 : AllLt d4 nw8) (h6 : ∀ p ∈ nw8, p.1 ≠ d6) (hw : (lw : Nat) < lb) (hc : (c : Nat) < lb) (hn : AllLt lb news) : ∀ p ∈ T, p.1 ≠ lb := by
  intro p hp
  have hp' := hp
  rw [hT] at hp'
  rcases List.mem_append.mp hp' with h1 | h1
  · obtain ⟨x, _, rfl⟩ := List.mem_map.mp h1
    refine apart N (List.mem_cons_of_mem _ (List.mem_cons_of_mem _ hp)) (List.mem_cons_of_mem _ List.mem_cons_self) ?_
    intro e; exact absurd (congrArg Obj.cls e) (by intro e; exact absurd (Value.type.inj e) (by decide))
  rcases List.mem_cons.mp h1 with rfl | h1
  · exact Nat.ne_of_gt (ktn_ltOf h4 _ hb)
  rcases List.mem_cons.mp h1 with rfl | h1
  · exact (h6 _ hb).symm
  rcases List.mem_cons.mp h1 with rfl | h1
  · exact Nat.ne_of_lt hw
  rcases List.mem_cons.mp h1 with rfl | h1
  · exact Nat.ne_of_lt hc
  · exact Nat.ne_of_lt (ktn_ltOf hn p h1)
theorem news_tail {h₀ h : Heap} {L : Addr} {a b : Addr × Obj} {r : List (Addr × Obj)} (_ : News h₀ L h (a :: b :: r)) : ∃ T, T = r := ⟨r, rfl⟩
theorem lg_apart2 {h₀ h : Heap} {L x d4 d6 c : Addr} {o4 o6 oc : Obj} {xs : List Value} {k : Nat} {tl2 : List TT} {P T news : List (Addr × Obj)} (N : News h₀ L h (P ++ T)) (hT : T = tl2.map TT.e ++ ((d4, o4) :: (d6, o6) :: (c, oc) :: news))
    (hx : (x, listOf xs.toArray k) ∈ P) (h4 : (x : Nat) < d4) (h6 : x ≠ d6) (hc : (c : Nat) < x) (hn : AllLt x news) : ∀ p ∈ T, p.1 ≠ x := by
  intro p hp
  have hp' := hp
  rw [hT] at hp'
  rcases List.mem_append.mp hp' with h1 | h1
  · obtain ⟨x, _, rfl⟩ := List.mem_map.mp h1
    refine apart N (List.mem_append_right _ hp) (List.mem_append_left _ hx) ?_
    intro e; exact absurd (congrArg Obj.cls e) (by intro e; exact absurd (Value.type.inj e) (by decide))
  rcases List.mem_cons.mp h1 with rfl | h1
  · exact Nat.ne_of_gt h4
  rcases List.mem_cons.mp h1 with rfl | h1
  · exact fun e => h6 e.symm
  rcases List.mem_cons.mp h1 with rfl | h1
  · exact Nat.ne_of_lt hc
  · exact Nat.ne_of_lt (ktn_ltOf hn p h1)
theorem news_tail3 {h₀ h : Heap} {L : Addr} {a b c : Addr × Obj} {r : List (Addr × Obj)} (_ : News h₀ L h (a :: b :: c :: r)) : ∃ T, T = r := ⟨r, rfl⟩
theorem lg_news2 {h₀ h : Heap} {L : Addr} {a b d4 d6 lw c : Addr × Obj} {news : List (Addr × Obj)} {tl : List TT} (N : News h₀ L h (a :: b :: (tl.map TT.e ++ (d4 :: d6 :: lw :: c :: news)))) :
    News h₀ L h ((b :: lw :: tl.map TT.e) ++ (a :: d6 :: c :: news)) := fun p hp => N p (by
  have up : ∀ q ∈ d4 :: d6 :: lw :: c :: news, q ∈ a :: b :: (tl.map TT.e ++ (d4 :: d6 :: lw :: c :: news)) := fun q hq => List.mem_cons_of_mem _ (List.mem_cons_of_mem _ (List.mem_append_right _ hq))
  rcases List.mem_append.mp hp with hp | hp
  · rcases List.mem_cons.mp hp with rfl | hp
    · exact List.mem_cons_of_mem _ List.mem_cons_self
    rcases List.mem_cons.mp hp with rfl | hp
    · exact up _ (List.mem_cons_of_mem _ (List.mem_cons_of_mem _ List.mem_cons_self))
    · exact List.mem_cons_of_mem _ (List.mem_cons_of_mem _ (List.mem_append_left _ hp))
  · rcases List.mem_cons.mp hp with rfl | hp
    · exact List.mem_cons_self
    rcases List.mem_cons.mp hp with rfl | hp
    · exact up _ (List.mem_cons_of_mem _ List.mem_cons_self)
    · exact up _ (List.mem_cons_of_mem _ (List.mem_cons_of_mem _ (List.mem_cons_of_mem _ hp))))
theorem lg_end2 {W R T : List (Addr × Obj)} {tl : List TT} {x : TT} {lb lw : Addr} {ow : Obj} {k : Nat} (hl : (lb, listOf (tl.map TT.r ++ [x.r]).toArray k) ∈ W) (hw : (lw, ow) ∈ W) (hT : ∀ p ∈ T, p ∈ W) (hTe : T = tl.map TT.e ++ R) (hx : x.e ∈ W) :
    ∀ p ∈ ((lb, listOf ((tl ++ [x]).map TT.r).toArray k) :: (lw, ow) :: (tl ++ [x]).map TT.e) ++ R, p ∈ W := by
  intro p hp
  rcases List.mem_append.mp hp with hp | hp
  · rcases List.mem_cons.mp hp with rfl | hp
    · rw [List.map_append]; exact hl
    rcases List.mem_cons.mp hp with rfl | hp
    · exact hw
    · obtain ⟨y, hy, rfl⟩ := List.mem_map.mp hp
      rcases List.mem_append.mp hy with hy | hy
      · exact hT _ (hTe ▸ List.mem_append_left _ (List.mem_map_of_mem hy))
      · rw [List.mem_singleton.mp hy]; exact hx
  · exact hT _ (hTe ▸ List.mem_append_right _ hp)
theorem lg_kind2 {tl : List TT} {x : TT} {lb lw : Addr} {it : Obj} {xs ys : Array Value} {k k2 : Nat} (h : itKind it) : ∀ p ∈ (lb, listOf xs k) :: (lw, listOf ys k2) :: (tl ++ [x]).map TT.e, p.2 ≠ it := by
  intro p hp
  rcases List.mem_cons.mp hp with rfl | hp
  · exact ne_it_list h rfl
  rcases List.mem_cons.mp hp with rfl | hp
  · exact ne_it_list h rfl
  · obtain ⟨y, _, rfl⟩ := List.mem_map.mp hp
    exact ne_it_tuple h rfl
theorem lg_dec {wins ns : List Int} {i : Nat} {vs : List Value} (hi : i < ns.length) (h : IntsAre vs ((decrI wins (ns.take i)).set (ns.getD i 0).toNat ((decrI wins (ns.take i)).getD (ns.getD i 0).toNat 0 - 1))) : IntsAre vs (decrI wins (ns.take (i + 1))) := by
  rw [take_snoc ns 0 hi, decrI_snoc]; exact h
noncomputable abbrev RetB (row : List Int) (news : List (Addr × Obj)) (h₀ : Heap) (L : Addr) (m : Str → Option Value) (s : Shared) (Q : Value → Shared → Prop) : Prop :=
  ∀ (p : Addr) (tl : List TT) (k : Nat) (h' : Heap) (tk' : Nat), Fr h₀ L h' m → News h₀ L h' ((p, listOf (tl.map TT.r).toArray k) :: (tl.map TT.e ++ news)) → LgDone row (tl.map TT.v) → tl.length ≤ 64 → (∀ q ∈ news, q.1 < p) → Q (.ref p) { s with heap := h', toks := tk' }
theorem lg_end3 {h₀ h : Heap} {L : Addr} {b w d4 d6 c : Addr × Obj} {news : List (Addr × Obj)} {tl : List TT} (_ : News h₀ L h (b :: w :: (tl.map TT.e ++ (d4 :: d6 :: c :: news)))) :
    ∀ p ∈ (b :: d6 :: w :: tl.map TT.e) ++ (c :: news), p ∈ b :: w :: (tl.map TT.e ++ (d4 :: d6 :: c :: news)) := fun p hp => by
  rcases List.mem_append.mp hp with hp | hp
  · rcases List.mem_cons.mp hp with rfl | hp
    · exact List.mem_cons_self
    rcases List.mem_cons.mp hp with rfl | hp
    · exact List.mem_cons_of_mem _ (List.mem_cons_of_mem _ (List.mem_append_right _ (List.mem_cons_of_mem _ List.mem_cons_self)))
    rcases List.mem_cons.mp hp with rfl | hp
    · exact List.mem_cons_of_mem _ List.mem_cons_self
    · exact List.mem_cons_of_mem _ (List.mem_cons_of_mem _ (List.mem_append_left _ hp))
  · exact List.mem_cons_of_mem _ (List.mem_cons_of_mem _ (List.mem_append_right _ (List.mem_cons_of_mem _ (List.mem_cons_of_mem _ hp))))
theorem lg_size {tl1 : List TT} {ts : List (Int × Int)} {xs : List Int} {f : Int → Int × Int} {L5 : List Int} {i y : Nat} (h : tl1.map TT.v = ts ++ (xs.take i).map f) (hx : xs = L5.take y ∨ xs = L5.drop y) (ht : ts.length ≤ 1000) (hn : L5.length ≤ 1000) : (tl1.map TT.r).toArray.size ≤ 16777216 := by
  have h1 := congrArg List.length h
  simp only [List.length_map, List.length_append, List.length_take] at h1
  rw [List.size_toArray, List.length_map]
  have h2 : xs.length ≤ 1000 := by
    rcases hx with rfl | rfl
    · rw [List.length_take]; lia
    · rw [List.length_drop]; lia
  lia
theorem LgB.done {row wins : List Int} {left : List Nat} {ts : List (Int × Int)} (H : LgB row wins left ts) (hb : (!decide (left.map (fun (x : Nat) => (x : Int)) = [])) = false) : LgDone row ts := by
  cases left with
  | nil => exact .inl ⟨_, H.r⟩
  | cons x r => simp at hb
theorem LgB.bad {row wins : List Int} {left left1 : List Nat} {ts : List (Int × Int)} {FI : Int} {L5 : List Int} {n : Nat} (H : LgB row wins left ts) (hp : left1.Perm left) (hs : LgSorted wins left1) (h0 : 0 < left.length) (hF : (left1.map fun (x : Nat) => (x : Int)).getLastD 0 = FI)
    (h5 : L5 = (left1.map fun (x : Nat) => (x : Int)).dropLast) (hn : n = L5.length) (hb : ¬ (0 ≤ wins.getD FI.toNat 0 ∧ wins.getD FI.toNat 0 ≤ (n : Int))) : LgDone row (([] : List TT).map TT.v) := by
  refine .inr ⟨rfl, wins, left, left1, ts, FI, H.r, hp, hs, h0, hF, ?_⟩
  rw [← h5, ← hn]; exact hb
theorem sub_cons {α : Type} {a : α} {r W : List α} (h : a ∈ W) (h2 : ∀ p ∈ r, p ∈ W) : ∀ p ∈ a :: r, p ∈ W := fun p hp => by
  rcases List.mem_cons.mp hp with rfl | hp
  · exact h
  · exact h2 p hp
theorem sub_app {α : Type} {r t W : List α} (h : ∀ p ∈ r, p ∈ W) (h2 : ∀ p ∈ t, p ∈ W) : ∀ p ∈ r ++ t, p ∈ W := fun p hp => by
  rcases List.mem_append.mp hp with hp | hp
  · exact h p hp
  · exact h2 p hp
end Mine
end
section
open PySem PySem.W PyProof.Rows
set_option maxRecDepth 100000
namespace Mine
local macro_rules | `(tactic| walk_at $s:str) => `(tactic| k_extra $s)

local macro_rules | `(tactic| k_all) => `(tactic| assumption)
local macro_rules | `(tactic| k_ne) => `(tactic| (refine neN ?_; assumption))






set_option maxHeartbeats 8000000 in
theorem c_league (w : World) (mean : ExcName → Option Value) (mg mb : Str → Option Value) (news : List (Addr × Obj)) (lr : Addr) (rv : List Value) (rk : Nat) (row : List Int)
   (hlr : (lr, listOf rv.toArray rk) ∈ news) (hri : IntsAre rv row) (hr8 : row.length ≤ 8) :
   Cl w mean mg mb 89 12 news [.ref lr] (RetB row news) := by
  unfold Cl; k_fill
  intro dp un gd cn cs a9 ccd cl outer A₀ base h₀ L m s Q E hB hF hX hN hTop hk hdp hun hret
  k_with_none
  k_with "binaryOp LShift int int" => (k_here; with_reducible refine r_lsh ?_ ?_)
  k_with "inplaceOp LShift int int" => (k_here; with_reducible refine r_ilsh ?_ ?_)
  k_with "binaryOp Mult int int" => (k_here; with_reducible refine r_mul ?_ ?_)
  k_with "binaryOp FloorDiv int int" => (k_here; with_reducible refine r_fdiv ?_ ?_)
  k_with "binaryOp Mod int int" => (k_here; with_reducible refine r_mod ?_ ?_)
  k_with "binaryOp RShift int int" => (k_here; with_reducible refine r_rsh ?_ ?_)
  k_with "inplaceOp RShift int int" => (k_here; with_reducible refine r_irsh ?_ ?_)
  k_with "call builtin:divmod" => (k_here; k_dflt (refine' r_divmod ?k1 ?k2 ?_ ?_; (case k1 => k_asm); (case k2 => k_asm)); intro p9 h9 F9 N9 l9; (try k_lt l9))
  k_with "call builtin:list.append" => (k_here; k_dflt (refine' r_append ?k1 ?k2 ?k3 ?_ ?_; (case k1 => k_asm); (case k2 => k_asm); (case k3 => k_upd)); intro h' F' N'; (try k_sweep))
  k_with "call ref" => (k_here; k_extra "mycall")
  k_with "exec For Name Name cons nil" => (k_here; k_dflt (refine For_G ?_ ?hs; (case hs => intro _; rfl)))
  k_with "exec For Name Call cons nil" => (k_here; k_dflt (refine For_G ?_ ?hs; (case hs => intro _; rfl)))
  k_with "exec For Name Subscript cons nil" => (k_here; k_dflt (refine For_G ?_ ?hs; (case hs => intro _; rfl)))
  k_with "exec For Name BinOp cons nil" => (k_here; k_dflt (refine For_G ?_ ?hs; (case hs => intro _; rfl)))
  k_with "exec For Tuple Name cons nil" => (k_here; k_dflt (refine For_G ?_ ?hs; (case hs => intro _; rfl)))
  k_with "pyIter ref" => (k_here; first | k_extra "loop" | refine Ob.out ?_)
  k_with "LtPost" => (dsimp only [LtPost])
  k_with "LtEnd" => (k_extra "ltend")
  k_with "binaryOp Add ref ref" => (k_here; k_dflt (refine' r_addl ?k1 ?k2 ?k3 ?k4 ?_ ?_; (case k1 => k_asm); (case k2 => k_asm); (case k3 => kcj_m); (case k4 => kcj_m)); intro D9 h9 F9 N9 l9; (try k_lt l9))
  k_with "assign Tuple" => (k_here; k_dflt (refine' r_unpair rfl ?k1 ?k2 ?k3 ?_; (case k1 => k_asm); (case k2 => k_asm); (case k3 => kcj_m)); intro h' F' N')
  k_with "eval Name" => (k_here; (with_reducible show wpAny _ _ (eval (Expr.Name _ _) (compEnvC _ _ _ _)) _ _ _); k_dflt (refine' lcf_cell ?N ?c ?m ?d ?_ ?a ?b; (case a => rfl); (case b => rfl); (case N => k_asm); (case c => rfl); (case m => kcj_m); (case d => assumption); k_whole))
  k_with "eval ListComp" => (k_here; (with_reducible show wpAny _ _ (eval (Expr.ListComp _ [⟨Expr.Tuple _ _ _, _, _, _⟩] _ _) _) _ _ _); k_dflt (refine LCp.ListComp_P (F₀ := by k_asm) (by with_unfolding_all rfl) (by decide) (by rfl) (by decide) (by rfl) (by rfl) (by decide) ?_))
  k_with "eval ListComp" => (k_here; (with_reducible show wpAny _ _ (eval (Expr.ListComp _ [⟨Expr.Name _ _, _, _, _⟩] _ _) _) _ _ _); k_dflt (refine LCg.ListComp_U (F₀ := by k_asm) (by with_unfolding_all rfl) (by decide) (by rfl) (by decide) (by rfl) ?_))
  k_with "eval ListComp" => (k_here; (with_reducible show wpAny _ _ (eval (Expr.ListComp _ [⟨Expr.Name _ _, _, [_], _⟩] _ _) _) _ _ _); k_dflt (refine LCt.ListComp_T (F₀ := by k_asm) (by with_unfolding_all rfl) (by decide) (by rfl) (by decide) (by rfl) ?_))
  k_with "CompSrcT" => (k_extra "compsrct")
  k_with "CTEnd" => (k_dflt (refine' CTEnd.intro ?e1 ?e2 ?e3 ?_; (case e1 => k_asm); (case e2 => k_asm); (case e3 => kcj_in)))
  k_with "CompSrc" => (k_extra "compsrc")
  k_with "CIEnd" => (k_dflt (refine' CIEnd.intro ?e1 ?e2 ?e3 ?_; (case e1 => k_asm); (case e2 => k_asm); (case e3 => kcj_in)))
  k_with "SrcLP" => (k_extra "srclp")
  k_with "CPEnd" => (k_dflt (refine' CPEnd.intro ?e1 ?e2 ?e3 ?_ ?_; (case e1 => k_asm); (case e2 => k_asm); (case e3 => exact ktn_ltOf (by assumption))))
  k_with "call builtin:sorted" => (k_here; k_extra "sorted")
  k_with "call type:list" => (k_here; k_dflt (first
    | ((refine' kup_listOf ?lF ?lN ?lb rfl ?_ ?lz; (case lF => k_asm); (case lN => k_asm); (case lb => kcj_m); (case lz => k_extra "lsize")); intro D9 c9 h9 F9 N9 l9; (try k_lt l9))
    | ((rename IsRange _ _ _ _ _ _ _ _ => rgX); (refine' kll_range rfl ?lF ?lN rgX ?ls ?ln ?lz ?_; (case lF => k_asm); (case lN => k_asm); (case ls => exact small_one (by lia) (by lia) (by lia) (by lia)); (case ln => exact rangeSize_nat _ _); (case lz => k_extra "lrsize")); k_extra "lrange")))
  k_with "compareOp NotEq ref ref" => (k_here; first | k_dflt (refine' r_ne_nil ?zN ?za ?zb ?zi ?zu ?_; (case zN => k_asm); (case za => kcj_m); (case zb => kcj_m); (case zi => assumption); (case zu => cb_units)) | refine Ob.out ?_)
  k_with "exec While Compare cons nil" => (k_here; first | k_extra "while" | refine Ob.out ?_)
  k_with "exec Assign cons ListComp" => (k_here; (with_reducible show wpAny _ _ (exec (Stmt.Assign [PySem.Expr.Name _ _] (PySem.Expr.ListComp _ [⟨PySem.Expr.Tuple _ _ _, _, _, _⟩] _ _) _) _) _ _ _); first | k_dflt (refine LCp.Assign_ListComp_P (F₀ := by k_asm) (by rfl) (by with_unfolding_all rfl) (by with_unfolding_all rfl) (by decide) (by rfl) (by decide) (by rfl) (by rfl) (by decide) (by rfl) (by rfl) ?_) | refine Ob.out ?_)
  k_with "call builtin:list.pop" => (k_here; first | k_extra "pop" | refine Ob.out ?_)
  k_with "eval Name" => (k_here; (with_reducible show wpAny _ _ (eval (PySem.Expr.Name _ _) (envOfC _ _ _ _ _)) _ _ _); k_dflt (refine' nameX_C ?xN ?xc ?xm ?xd ?_ ?xa ?xb; (case xa => rfl); (case xb => rfl); (case xN => k_asm); (case xc => rfl); (case xm => kcj_m); (case xd => assumption); k_whole))
  k_with "subscriptTail Name Slice ref ref" => (k_here; first
    | (k_dflt (refine' r_upto ?gF ?gN ?gm ?gi ?g0 ?gz ?_ ?gs ?gt; (case gF => k_asm); (case gN => k_asm); (case gm => kcj_m); (case gi => k_extra "slicei"); (case g0 => k_extra "slice0"); (case gz => k_extra "slicez"); (case gs => with_unfolding_all rfl); (case gt => kmk_pure)); k_extra "slicek")
    | (k_dflt (refine' r_from ?gF ?gN ?gm ?gi ?g0 ?gz ?_ ?gs ?gt; (case gF => k_asm); (case gN => k_asm); (case gm => kcj_m); (case gi => k_extra "slicei"); (case g0 => k_extra "slice0"); (case gz => k_extra "slicez"); (case gs => with_unfolding_all rfl); (case gt => kmk_pure)); k_extra "slicek")
    | refine Ob.out ?_)
  k_with "WtPost" => (dsimp only [WtPost])
  k_with "WtEnd" => (k_extra "wtend")
  k_with "subscriptTail Name Name ref int" => (k_here; k_dflt (refine' r_item ?k1 ?k2 ?k3 ?_ ?_ ?_; (case k1 => k_asm); (case k2 => kcj_m); (case k3 => assumption)); intro t9)
  k_with "subscriptTail Name Constant ref int" => (k_here; k_dflt (refine' r_item ?k1 ?k2 ?k3 ?_ ?_ ?_; (case k1 => k_asm); (case k2 => kcj_m); (case k3 => assumption)); intro t9)
  k_with "call builtin:len" => (k_here; k_dflt (refine' r_len ?k1 ?k2 ?_ ?_; (case k1 => k_asm); (case k2 => kcj_m)))
  k_with "setItem ref int" => (k_here; k_dflt (refine' ksa_set ?k1 ?k2 ?k3 ?k4 ?k5 ?k6 ?k7 ?_; (case k1 => k_asm); (case k2 => k_asm); (case k3 => k_upd); (case k4 => assumption); (case k5 => assumption); (case k6 => assumption); (case k7 => assumption)); intro h' F' N' hi' hl' hs'; (try k_sweep))
  k_with "getItem ref int" => (k_here; k_dflt (refine' ksa_get ?k1 ?k2 ?k3 ?k4 ?k5 ?k6 ?_; (case k1 => k_asm); (case k2 => kcj_m); (case k3 => assumption); (case k4 => assumption); (case k5 => assumption); (case k6 => assumption)); intro _)
  k_with "WhlIf" => (k_extra "whlif")
  have hrl := hri.length
  k_with "lsize" => exact due_sz (by show rv.length ≤ 1000; lia)
  k_with "lrsize" => (show (_ : Nat) ≤ 2 ^ 24; rw [lg_n rfl]; exact Nat.le_trans hr8 (by decide))
  k_with "lrange" => (intro D9 us9 c9 h9 tk9 F9 N9 l9 hRk; (try k_lt l9))
  k_with "while" => k_dflt (
    (rename News _ _ _ _ => lN'); (obtain ⟨⟨lb, hlb⟩, ⟨lw, hlw⟩⟩ := news_names lN'); subst hlb; subst hlw
    (rename Fr _ _ _ _ => lF'); (rename News _ _ _ _ => lN')
    refine' r_while (σ := LS) (fun c => (lb, listOf (c.tl.map TT.r).toArray c.bk) :: (c.ll, listOf c.lv.toArray c.lk) :: (lw, listOf c.wv.toArray c.wk) :: c.tl.map TT.e) ((L' + 1, _) :: news) (fun c => [(Str.ofString "left", .ref c.ll), (Str.ofString "beaten", .ref lb)]) [Str.ofString "first", Str.ofString "who"]
      (fun k c => k = c.lv.length ∧ ∃ (wins : List Int) (left : List Nat), IntsAre c.wv wins ∧ IntsAre c.lv (left.map fun (x : Nat) => (x : Int)) ∧ LgB row wins left (c.tl.map TT.v)) us9.length ⟨_, _, _, _, _, [], _⟩ lF' lN' ?lk ?lp ?_
    (case lk => kst_all)
    (case lp => exact ⟨rfl, row, _, (show IntsAre rv row by assumption), lg_ints hRk, lg_start hr8 (lg_n rfl)⟩)
    (iterate 2 (try (rename (_ = Data.cell (bindC _ _ _ _)) => dX; clear dX)))
    (try clear lF' lN')
    (rename (_ ∧ lw < lb ∧ L' + 1 < lb ∧ AllLt lb news) => lLb); (rename (L' + 1 < lw ∧ AllLt lw news) => lLw)
    rintro kW ⟨wv, wk, ll, lv, lk, tl, bk⟩ u sW hsW ⟨hk, wins, left, hw, hl, hI⟩ F' N'; (try dsimp only [List.cons_append, List.nil_append, kstB, lpM] at N' F' hw hl hI hk); have hll : lv.length = left.length := ints_len hl; have hl8 := hI.len8 hr8; have hwl := hI.wl)
  k_with "whlif" => (refine whl_split (fun hb9 => ?_) (fun hb9 => ?_))
  k_with "compsrc" => k_dflt (
    refine' r_lcip (fun i => (wins.getD (left.getD i 0) 0, ((left.getD i 0 : Nat) : Int))) rfl ?cF ?cN ?cq ?cz ?_ ?_
    (case cF => k_asm); (case cN => k_asm); (case cq => kcj_m); (case cz => exact due_sz (by lia))
    rotate_left
    intro D8 tl8 nw8 h8 tk8 hv8 ht8 hk8 ho8 F' N'
    have hm1 := hk8 (_, listOf (tl.map TT.r).toArray bk) (by kcj_m)
    have hm3 := hk8 (_, listOf wv.toArray wk) (by kcj_m)
    have hmc := hk8 (L' + 1, _) (by kcj_m)
    have hmT : ∀ p ∈ tl.map TT.e ++ ((L' + 1, _) :: news), p ∈ nw8 := fun p hp => hk8 p (List.mem_cons_of_mem _ (List.mem_cons_of_mem _ (List.mem_cons_of_mem _ (List.mem_cons_of_mem _ hp))))
    rotate_left
    rintro i7 v7 nw7 ys7 I7 oI7 C7 oC7 D7 m7 s7 E7 hs7 hi7 hv7 hk7 hC7 hx7 F' N'
    obtain ⟨t7, rfl, hi7'⟩ := at_natL hl hv7
    have hlt7 := hI.lt _ (getD_mem' hi7')
    have hcl := hk7 (L' + 1, _) (by kcj_m)
    have hcw := hk7 (_, listOf wv.toArray wk) (by kcj_m))
  k_with "sorted" => k_dflt (
    refine' r_sorted_pairs (tl := tl8) ?sF ?sN ?sq ?st ?s1 ?s64 ?sn ?_
    (case sF => k_asm); (case sN => k_asm); (case sq => kcj_m)
    (case st => (intro y hy; repeat (first | exact ht8 y hy | apply List.mem_cons_of_mem)))
    (case s1 => exact lg_len1 hv8 hb9 hll)
    (case s64 => exact lg_len64 hv8 (by lia))
    (case sn => exact lg_nod hv8 hll hI.nd)
    intro D9 tl9 c9 h9 hp9 hs9 F' N' l9; (try k_lt l9))
  k_with "srclp" => k_dflt (
    refine' r_lcpiA tl9 (fun q => q.2) rfl ?pF ?pN ?pq ?pz ?pt ?_ ?_
    (case pF => k_asm); (case pN => k_asm); (case pq => kcj_m); (case pz => exact due_sz (by rw [hp9.length_eq]; exact Nat.le_of_lt (Nat.lt_trans (lg_len64 hv8 (by lia)) (by decide))))
    (case pt => (intro y hy; have hy' := hp9.mem_iff.mp hy; repeat (first | exact ht8 y hy' | apply List.mem_cons_of_mem)))
    rotate_left
    intro D6 ys6 h6 tk6 hys6 ho6 F' N'
    obtain ⟨left1, he1, hp1, hs1⟩ := lg_sorted hll hv8 hp9 hs9
    rw [he1] at hys6
    have q1 := neN (ho6 _ List.mem_cons_self)
    have q2 := neN (ho6 _ (List.mem_cons_of_mem _ List.mem_cons_self))
    have q3 : ∀ p ∈ nw8, p.1 ≠ D6 := fun p hp => ho6 p (List.mem_cons_of_mem _ (List.mem_cons_of_mem _ hp))
    (try dsimp only at q1 q2)
    have hl1 := hp1.length_eq
    have hp0 : 0 < ys6.length := by rw [ints_len hys6, hl1]; exact lg_pos hb9
    rotate_left
    rintro y7 ys7 I7 oI7 C7 oC7 D7 m7 s7 E7 hs7 hy7 hC7 hx7 hx7' F' N')
  k_with "slicei" => exact hys5
  k_with "slice0" => assumption
  k_with "slicez" => exact due_sz (by rw [List.length_dropLast, ints_len hys6, hl1]; lia)
  k_with "slicek" => (intro D4 ws4 h4 F' N' l4 hI4; (try k_lt l4))
  k_with "loop" => (
    (rename News _ _ _ _ => lN8); replace lN8 := lg_news1 lN8 hm1 hmT hm3
    k_dflt (
    (rename Fr _ _ _ _ => lF'); (rename News _ _ _ _ => lN')
    refine' lt_listL (target := PySem.Expr.Name (Str.ofString "who") _) (σ := List TT × Nat) (fun c => (lb, listOf (c.1.map TT.r).toArray c.2) :: c.1.map TT.e) ((D4, listOf (List.toArray ws4) 0) :: (D6, listOf ys6.dropLast.toArray _) :: (lw, listOf wv.toArray wk) :: (L' + 1, _) :: news) (fun c => []) [Str.ofString "who"] (fun i c => c.1.map TT.v = tl.map TT.v ++ ((L5.take (wins.getD FI.toNat 0).toNat).take i).map fun x => (FI, x)) (tl, bk) rfl ?ll lF' (lN') ?lk (by simp) ?_ ?_
    (case ll => exact List.mem_cons_self)
    (case lk => first | exact List.forall_mem_nil _ | kst_all)
    all_goals (try clear lF' lN')
    rotate_left
    rintro ⟨tl1, bk1⟩ uA hA tkA hPA F' N'; (try dsimp only [List.cons_append, List.nil_append, kstB, lpM] at N' hPA F'); rw [List.take_of_length_le (Nat.le_of_eq hI4.length.symm)] at hPA
    rotate_left
    rintro ⟨tl1, bk1⟩ iA vA uA IA itA sA hsA hiA hvA hneA hikA hPA F' N'; (try dsimp only [List.cons_append, List.nil_append, kstB, lpM] at N' hneA hPA F'); obtain ⟨tA, eA, hiA'⟩ := at_int hI4 hvA; subst eA; obtain ⟨T, hTe⟩ := news_tail N'; rw [← hTe] at N' hneA; have n6 := lg_apart1 N' hTe hm1 l4.2.2.2 q3 lLb.2.1 lLb.2.2.1 lLb.2.2.2; have n7 := neN (hneA _ List.mem_cons_self); (try dsimp only at n7)))
  k_with "ltend" => k_dflt (
    (rename News _ _ _ _ => nE'); (try simp only [List.push_toArray] at nE')
    refine' LtEnd.intro (σ := List TT × Nat) ⟨tl1 ++ [⟨_, FI, tP, _, tA⟩], bk1 + 1⟩ ?e1 nE' ?e3 ?e4 ?e5 ?e6 ?e7 ?e8
    (case e1 => k_asm)
    (case e3 => (refine lg_end1 ?b1 ?b2 hTe ?b3; (case b1 => kcj_m); (case b2 => (intro p hp; repeat (first | exact hp | apply List.mem_cons_of_mem))); (case b3 => kcj_m)))
    (case e4 => kcj_m)
    (case e5 => exact lg_kind1 hikA)
    (case e6 => kst_all)
    (case e7 => exact same_of (Str.ofString "who") (by kst_same) (.inr rfl))
    (case e8 => exact lg_step1 hPA hiA' rfl))
  k_with "loop" => (
    (rename News _ _ _ _ => lN8); replace lN8 := lg_news2 lN8
    k_dflt (
    (rename Fr _ _ _ _ => lF'); (rename News _ _ _ _ => lN')
    refine' lt_listL (target := PySem.Expr.Name (Str.ofString "who") _) (σ := List TT × Nat × List Value) (fun c => (lb, listOf (c.1.map TT.r).toArray c.2.1) :: (lw, listOf c.2.2.toArray wk) :: c.1.map TT.e) ((D4, listOf (List.toArray ws4) 0) :: (D6, listOf ys6.dropLast.toArray _) :: (L' + 1, _) :: news) (fun c => []) [Str.ofString "who"] (fun i c => c.1.map TT.v = tl1.map TT.v ++ ((L5.drop (wins.getD FI.toNat 0).toNat).take i).map (fun x => (x, FI)) ∧ IntsAre c.2.2 (decrI wins ((L5.drop (wins.getD FI.toNat 0).toNat).take i))) (tl1, bk1, wv) rfl ?ll lF' (lN') ?lk ⟨by simp, hw⟩ ?_ ?_
    (case ll => exact List.mem_cons_self)
    (case lk => first | exact List.forall_mem_nil _ | kst_all)
    all_goals (try clear lF' lN')
    rotate_left
    rintro ⟨tl2, bk2, wv2⟩ uB hB tkB hPB F' N'; (try dsimp only [List.cons_append, List.nil_append, kstB, lpM] at N' hPB F'); rw [List.take_of_length_le (Nat.le_of_eq hI4.length.symm)] at hPB
    rotate_left
    rintro ⟨tl2, bk2, wv2⟩ iB vB uB IB itB sB hsB hiB hvB hneB hikB hPB F' N'; (try dsimp only [List.cons_append, List.nil_append, kstB, lpM] at N' hneB hPB F'); obtain ⟨tB, eB, hiB'⟩ := at_int hI4 hvB; subst eB; obtain ⟨T, hTe⟩ := news_tail3 N'; rw [← hTe] at N' hneB; have n6 := lg_apart2 (P := [_, _, _]) N' hTe (List.mem_cons_of_mem _ List.mem_cons_self) l4.1 (q3 _ hm1) lLb.2.2.1 lLb.2.2.2; have n8 := lg_apart2 (P := [_, _, _]) N' hTe (List.mem_cons_of_mem _ (List.mem_cons_of_mem _ List.mem_cons_self)) (ktn_ltOf l4.2 _ (List.mem_append_right _ (List.mem_cons_of_mem _ (List.mem_cons_of_mem _ List.mem_cons_self)))) (q3 _ hm3) lLw.1 lLw.2; have n7 := neN (hneB _ List.mem_cons_self); have n9 := neN (hneB _ (List.mem_cons_of_mem _ List.mem_cons_self)); (try dsimp only at n7 n9); have n10 : (lw : Nat) ≠ lb := Nat.ne_of_lt lLb.2.1; have hcB : (L' + 1, _) ∈ T := hTe ▸ List.mem_append_right _ (List.mem_cons_of_mem _ (List.mem_cons_of_mem _ List.mem_cons_self)); have hwB := hPB.2; obtain ⟨hr0, hr1, hr2, hr3⟩ := lg_idx (y := (wins.getD FI.toNat 0).toNat) (xs := (L5.drop (wins.getD FI.toNat 0).toNat).take iB) hI hr8 hp1 hL5 hiB'))
  k_with "ltend" => k_dflt (
    (rename News _ _ _ _ => nE'); (try simp only [List.push_toArray] at nE')
    refine' LtEnd.intro (σ := List TT × Nat × List Value) ⟨tl2 ++ [⟨_, _, tB, FI, tP⟩], bk2 + 1, _⟩ ?e1 nE' ?e3 ?e4 ?e5 ?e6 ?e7 ?e8
    (case e1 => k_asm)
    (case e3 => (refine lg_end2 ?b1 ?b0 ?b2 hTe ?b3; (case b1 => kcj_m); (case b0 => kcj_m); (case b2 => (intro p hp; repeat (first | exact hp | apply List.mem_cons_of_mem))); (case b3 => kcj_m)))
    (case e4 => kcj_m)
    (case e5 => exact lg_kind2 hikB)
    (case e6 => kst_all)
    (case e7 => exact same_of (Str.ofString "who") (by kst_same) (.inr rfl))
    (case e8 => exact ⟨lg_step1 hPB.1 hiB' rfl, lg_dec hiB' (by assumption)⟩))
  k_with "wtend" => k_dflt (
    (rename News _ _ _ _ => nE')
    refine' WtEnd.intro (σ := LS) ⟨wv2, wk, D6, ys6.dropLast, _, tl2, bk2⟩ ys6.dropLast.length ?e1 nE' ?e3 ?e4 ?e5 ?e6 ?e7
    (case e1 => k_asm)
    (case e3 => exact lg_end3 nE')
    (case e4 => kst_all)
    (case e5 => exact same_of (Str.ofString "left") (by kst_same) (.inl ⟨_, List.mem_cons_self⟩))
    (case e6 => (rw [hk, hll, ← hl1, ← ints_len hys6, List.length_dropLast]; lia))
    (case e7 => exact ⟨rfl, _, left1.dropLast, hPB.2, (by rw [List.map_dropLast, ← hL5]; exact hys5), (by rw [hPB.1, hPA]; exact hI.next hr8 hp1 hs1 (lg_pos hb9) hL5 hFI (by assumption) (by rw [← hys5.length]; assumption))⟩))
  k_with "pop" => k_dflt (
    refine' kpa_pop ?oF ?oN ?oU hys6 hp0 ?oz ?_
    (case oF => k_asm); (case oN => k_asm); (case oU => exact Upd.head (fun p hp => lg_off q1 q2 q3 p hp)); (case oz => exact due_sz (by rw [ints_len hys6, hl1]; lia))
    intro hP tP F' N' hys5
    obtain ⟨L5, hL5⟩ : ∃ L5, L5 = (left1.map (fun (x : Nat) => (x : Int))).dropLast := ⟨_, rfl⟩
    rw [← hL5] at hys5
    generalize hFI : (left1.map (fun (x : Nat) => (x : Int))).getLastD 0 = FI)
  refine wpAny_call ?_
  k_dflt (refine' code_defC ?k1 ?k2 ?k3 ?k4 ?k5 ?kA ?kF ?kK ?k6 ?k7 ?k8 ?k9 ?kB ?kD ?_ ?c2 ?c3 ?c4; (case kA => exact rfl); (case kF => exact rfl); (case kK => assumption); (case k1 => k_asm); (case k2 => k_asm); (case k3 => k_asm); (case k4 => k_asm); (case k5 => k_asm); (case k6 => k_is); (case k7 => k_is); (case k8 => ktr_room); (case k9 => exact BindsTo.of_eq rfl); (case kB => exact rfl); (case kD => decide +kernel); (case c2 => exact rfl); (case c3 => exact rfl); (case c4 => exact rfl); k_whole; intro g' L' h' tk' cells' FG' F' N' Y' B' X' T' l1; (try k_lt l1); k_cells Y'; (try simp only [List.cons_append, List.nil_append] at N'); (try dsimp only); (try k_lift B'); (try k_fold))
  have hnc : ∀ p ∈ news, p.1 ≠ L' + 1 := fun p hp => Nat.ne_of_lt (Nat.lt_succ_of_lt (l1 p hp))
  k_steps
  all_goals first
    | ((with_reducible show Ob (0 ≤ ((left.getD i7 0 : Nat) : Int) ∧ _)); exact (by lia : 0 ≤ ((left.getD i7 0 : Nat) : Int) ∧ (((left.getD i7 0 : Nat) : Int)).toNat < wins.length))
    | (show _ < (2 : Int) ^ 63; rw [show (2 : Int) ^ 63 = 9223372036854775808 by decide]; lia)
    | ((with_reducible show Ob (y7.b = _)); show y7.b = y7.v.snd; rfl)
    | exact lg_size hPA (.inl rfl) (by have := hI.tl; lia) (by rw [← hys5.length, List.length_dropLast, ints_len hys6]; lia)
    | exact lg_size (hPB.1.trans (by rw [hPA])) (.inr rfl) (by have h1 := hI.tl; have h5 : L5.length ≤ 8 := (by rw [← hys5.length, List.length_dropLast, ints_len hys6]; lia); simp only [List.length_append, List.length_map, List.length_take] at h1 ⊢; lia) (by rw [← hys5.length, List.length_dropLast, ints_len hys6]; lia)
    | ((with_reducible show Ob (0 ≤ FI ∧ _)); have hf := lg_first hI hr8 hp1 (lg_pos hb9) hFI; exact (⟨hf.1, hf.2.1⟩ : _ ∧ _))
    | ((with_reducible show Ob (FI < _)); have hf := lg_first hI hr8 hp1 (lg_pos hb9) hFI; exact hf.2.2)
    | (show _ < (2 : Int) ^ 63; rw [List.length_dropLast, ints_len hys6, show (2 : Int) ^ 63 = 9223372036854775808 by decide]; lia)
    | (obtain ⟨_, _, rfl⟩ := hsW; (rename (_ ∧ _ ∧ _ ∧ AllLt _ nw8) => lZ); have hmn : ∀ p ∈ news, p ∈ nw8 := (fun p hp => hmT p (List.mem_append_right _ (List.mem_cons_of_mem _ hp)));
       refine' hret _ [] _ _ _ ?e1 (cb_drop ?e2 ?e3) ?e4 ?e5 ?e6; (case e1 => k_asm); (case e2 => k_asm); (case e3 => (refine sub_cons (by kcj_m) (fun p hp => ?_); repeat (first | exact hmn p hp | apply List.mem_cons_of_mem))); (case e4 => (exact hI.bad hp1 hs1 (lg_pos hb9) hFI hL5 hys5.length (fun hh => absurd hh.1 (by assumption)))); (case e5 => exact Nat.zero_le _); (case e6 => exact (fun q hq => ktn_ltOf lZ.2.2.2 q (hmn q hq))))
    | (obtain ⟨_, _, rfl⟩ := hsW; (rename (_ ∧ _ ∧ _ ∧ AllLt _ nw8) => lZ); have hmn : ∀ p ∈ news, p ∈ nw8 := (fun p hp => hmT p (List.mem_append_right _ (List.mem_cons_of_mem _ hp)));
       refine' hret _ [] _ _ _ ?e1 (cb_drop ?e2 ?e3) ?e4 ?e5 ?e6; (case e1 => k_asm); (case e2 => k_asm); (case e3 => (refine sub_cons (by kcj_m) (fun p hp => ?_); repeat (first | exact hmn p hp | apply List.mem_cons_of_mem))); (case e4 => (exact hI.bad hp1 hs1 (lg_pos hb9) hFI hL5 hys5.length (fun hh => absurd hh.2 (by assumption)))); (case e5 => exact Nat.zero_le _); (case e6 => exact (fun q hq => ktn_ltOf lZ.2.2.2 q (hmn q hq))))
    | (obtain ⟨_, _, rfl⟩ := hsW;
       refine' hret _ tl _ _ _ ?e1 (cb_drop ?e2 ?e3) ?e4 ?e5 ?e6; (case e1 => k_asm); (case e2 => k_asm); (case e3 => (refine sub_cons (by kcj_m) (sub_app (fun p hp => ?_) (fun p hp => ?_)); all_goals (repeat (first | exact List.mem_append_left _ hp | exact List.mem_append_right _ (List.mem_cons_of_mem _ hp) | apply List.mem_cons_of_mem)))); (case e4 => (exact hI.done hb9)); (case e5 => (have := hI.tl; rw [List.length_map] at this; lia)); (case e6 => exact ktn_ltOf lLb.2.2.2))
    | skip
end Mine
end
section
open PySem PySem.W PyProof.Rows PySem.Calls PyProof.V PySem.Spec
open PyProof.Rows.LCg (NsObj lst Off3 Off1 SrcAt CompEnd CompRest FinE FinA CompSrc)
set_option maxRecDepth 100000
namespace Mine
/-! rules for the law's own body -/
section
variable {prog : Program} {w : World} {A : Around} {E : Value → Shared → Prop} {s : Shared} {h₀ : Heap} {L l : Addr} {m : Str → Option Value} {nw : List (Addr × Obj)} {vs : List Value} {ns ms : List Int} {k : Nat} {Q : Value → Shared → Prop}
theorem r_sum (hh : A.handled = none) (F : Fr h₀ L s.heap m) (N : News h₀ L s.heap nw) (hq : (l, listOf vs.toArray k) ∈ nw) (hi : IntsAre vs ns)
    (h : ∀ h' tk t', Fr h₀ L h' m → News h₀ L h' nw → Q (.int ns.sum t') { s with heap := h', toks := tk }) :
    wpAny (model prog w) A (call (.builtin "sum") [.ref l]) Q E s := sumK hh F N ⟨_, (N _ hq).1, rfl, k, rfl⟩ hi h
theorem r_sorted_ints (F : Fr h₀ L s.heap m) (N : News h₀ L s.heap nw) (hq : (l, listOf vs.toArray k) ∈ nw) (hi : IntsAre vs ns) (h64 : ns.length < 64)
    (h : ∀ D vs' ns' c h', Fr h₀ L h' m → News h₀ L h' ((D, listOf vs'.toArray c) :: nw) → (∀ q ∈ nw, q.1 < D) → IntsAre vs' ns' → ns'.Perm ns → ns'.Pairwise (· ≤ ·) → Q (.ref D) { s with heap := h' }) :
    wpAny (model prog w) A (call (.builtin "sorted") [.ref l]) Q E s :=
  kso_sorted F N ⟨_, (N _ hq).1, rfl, k, rfl⟩ hi h64 fun D vs' ns' c h' F' N' l' i' _ p' o' _ => h D vs' ns' c h' F' N' l' i' p' o'
theorem r_slice {value slice : PySem.Expr} {vl vu : Value} {lo hi : Option Int} (F : Fr h₀ L s.heap m) (N : News h₀ L s.heap nw) (hq : (l, listOf vs.toArray k) ∈ nw) (pl : IsPart vl lo) (pu : IsPart vu hi) (hi' : IntsAre vs ns) (hm : IntsAre (slicePick vs.toArray lo hi none).toList ms) (hz : ns.length ≤ sizeLine)
    (h : ∀ D ws h', Fr h₀ L h' m → News h₀ L h' ((D, listOf (List.toArray ws) 0) :: nw) → (∀ p ∈ nw, p.1 < D) → IntsAre ws ms → Q (.ref D) { s with heap := h' })
    (hs : subscripted slice false (.ref l) (.ref s.heap.objs.size) = operate [.ref s.heap.objs.size, .ref l] (getItem (.ref l) (.ref s.heap.objs.size))) (ht : ∀ r, letTemporaryGo value (.ref l) r = pure ()) :
    wpAny (model prog w) A (subscriptTail value slice (.ref l) (.ref s.heap.objs.size)) Q E { s with heap := s.heap.push { cls := .type "slice", data := .fields #[vl, vu, .none] } } :=
  kmk_slice_ints F N ⟨_, (N _ hq).1, rfl, k, rfl⟩ pl pu hi' hm rfl (fun D ws h' F' N' l1 hI _ _ => h D ws h' F' N' l1 hI) hs ht (by rw [List.size_toArray, hi'.length]; exact hz)
theorem r_pow2 {n : Int} {t u : Tok} (h : Q (.int (2 ^ n.toNat) s.toks) { s with toks := s.toks + 1 }) (ho : Ob (0 ≤ n ∧ n ≤ 100000)) :
    wpAny (model prog w) A (binaryOp .Pow (.int 2 t) (.int n u)) Q E s := pow_int_small ho.1 (by have := ho.2; lia) (by decide) h
noncomputable def JoinEnd (h₀ : Heap) (L : Addr) (m : Str → Option Value) (nw : List (Addr × Obj)) (ok : Int → Prop) (s₁ : Shared) (y : Value) (s₂ : Shared) : Prop :=
  ∃ (D : Addr) (x : Int) (t : Tok) (k : Nat) (h' : Heap) (tk : Nat), y = .ref D ∧ s₂ = { s₁ with heap := h', toks := tk } ∧ Fr h₀ L h' m ∧ News h₀ L h' ((D, listOf [Value.int x t].toArray k) :: nw) ∧ ok x
theorem JoinEnd.intro {ok : Int → Prop} {s₁ : Shared} {D : Addr} {h' : Heap} {tk : Nat} {ws : List Value} {k : Nat} {ms : List Int} {nw' : List (Addr × Obj)} (F : Fr h₀ L h' m) (N : News h₀ L h' nw') (hD : (D, listOf ws.toArray k) ∈ nw') (hs : ∀ p ∈ nw, p ∈ nw') (hi : IntsAre ws ms) (h1 : ms.length = 1) (ho : Ob (ok (ms.getD 0 0))) :
    JoinEnd h₀ L m nw ok s₁ (.ref D) { s₁ with heap := h', toks := tk } := by
  match ms, h1, ws, hi with
  | [x], _, _, .cons _ t .nil =>
    refine ⟨D, x, t, k, h', tk, rfl, rfl, F, fun p hp => ?_, ho⟩
    rcases List.mem_cons.mp hp with rfl | hp
    · exact N _ hD
    · exact N p (hs p hp)
theorem r_join {test body orelse : PySem.Expr} {pos : Pos} {env : Env} (ok : Int → Prop) (_F : Fr h₀ L s.heap m) (_N : News h₀ L s.heap nw)
    (h : wpAny (model prog w) A (isTrue test env (eval test env)) (fun c s₂ => if c then wpAny (model prog w) A (eval body env) (JoinEnd h₀ L m nw ok s) E s₂ else wpAny (model prog w) A (eval orelse env) (JoinEnd h₀ L m nw ok s) E s₂) E s)
    (h2 : ∀ D x t k h' tk, Fr h₀ L h' m → News h₀ L h' ((D, listOf [Value.int x t].toArray k) :: nw) → ok x → Q (.ref D) { s with heap := h', toks := tk }) :
    wpAny (model prog w) A (eval (.IfExp test body orelse pos) env) Q E s :=
  wpAny_mono (IfExp_ h) (fun _ _ ⟨D, x, t, k, h', tk, e1, e2, F', N', o'⟩ => e1 ▸ e2 ▸ h2 D x t k h' tk F' N' o') fun _ _ e => e
theorem r_lci_listA {env : Env} {elt : PySem.Expr} {x y : Str} {scope : Scope} {cl : List (Str × Addr)} {Q : Flow → Shared → Prop} {q : Addr} {kk : Nat} (f : Nat → Int)
    (hh : A.handled = none) (F : Fr h₀ L s.heap m) (N : News h₀ L s.heap nw) (hq : (q, listOf vs.toArray kk) ∈ nw) (hsz : vs.length ≤ sizeLine)
    (turn : ∀ i v ys I oI C oC D m₂ (s₁ : Shared) (E' : Value → Shared → Prop), (∃ h tk, s₁ = { s with heap := h, toks := tk }) → i < vs.length → vs.toArray[i]? = some v → NsObj oC m₂ → m₂ x = some v → Fr h₀ L s₁.heap m → News h₀ L s₁.heap ((I, oI) :: (C, oC) :: (D, lst ys) :: nw) →
      wpAny (model prog w) A (eval elt (compEnvC scope cl C env)) (CIEnd h₀ L m ((I, oI) :: (C, oC) :: (D, lst ys) :: nw) (f i) s₁) E' s₁)
    (ret : ∀ D ys h tk, IntsAre ys ((List.range vs.length).map f) → (∀ p ∈ nw, p.1 ≠ D) → Fr h₀ L h (fun z => if z = y then some (.ref D) else m z) → News h₀ L h ((D, listOf ys.toArray ys.length) :: nw) → Q .next { s with heap := h, toks := tk }) :
    CompSrc prog w A h₀ L m env elt x scope cl (fun s₂ => FinA h₀ L m s₂ y Q) (.ref q) s := by
  refine CompSrc.ledger hh F N hq (by rw [List.size_toArray]; exact hsz) fun g => ?_
  rw [List.size_toArray]
  refine lci_ind (s := { s with heap := g }) (Fin := FinA h₀ L m { s with heap := g } y Q) vs.length f (.inr ⟨_, hq, rfl, kk, rfl⟩) turn ?_ vs.length 0 [] rfl .nil
  intro ys hy D h tk F' N' off
  exact ret D ys h tk hy (off_ne off) F' N'
end
theorem apart_cell {h₀ h : Heap} {L : Addr} {T : List (Addr × Obj)} (N : News h₀ L h T) {a b : Addr} {o : Obj} {xs : Array Value} {k : Nat} {v : Option Value} (h1 : (a, listOf xs k) ∈ T) (h2 : (b, o) ∈ T) (hd : o.data = .cell v) : (a : Nat) ≠ b :=
  apart N h1 h2 (cell_ne_list hd)
end Mine
end
section
open PySem PySem.W PyProof.Rows
namespace Mine
/-! rounds on slots -/
theorem andS {N a b c d : Nat} (ha : a < 2 ^ N) (hc : c < 2 ^ N) : (a + 2 ^ N * b) &&& (c + 2 ^ N * d) = (a &&& c) + 2 ^ N * (b &&& d) := by
  refine Nat.eq_of_testBit_eq fun j => ?_
  have h1 : a &&& c < 2 ^ N := Nat.lt_of_le_of_lt Nat.and_le_left ha
  rw [Nat.add_comm a, Nat.add_comm c, Nat.add_comm (a &&& c), Nat.testBit_and, Nat.testBit_two_pow_mul_add _ ha, Nat.testBit_two_pow_mul_add _ hc, Nat.testBit_two_pow_mul_add _ h1]
  split <;> rw [Nat.testBit_and]
theorem xorS {N a b c d : Nat} (ha : a < 2 ^ N) (hc : c < 2 ^ N) : (a + 2 ^ N * b) ^^^ (c + 2 ^ N * d) = (a ^^^ c) + 2 ^ N * (b ^^^ d) := by
  refine Nat.eq_of_testBit_eq fun j => ?_
  have h1 : a ^^^ c < 2 ^ N := Nat.xor_lt_two_pow ha hc
  rw [Nat.add_comm a, Nat.add_comm c, Nat.add_comm (a ^^^ c), Nat.testBit_xor, Nat.testBit_two_pow_mul_add _ ha, Nat.testBit_two_pow_mul_add _ hc, Nat.testBit_two_pow_mul_add _ h1]
  split <;> rw [Nat.testBit_xor]
theorem and_low {M x y f : Nat} (hf : f < 2 ^ M) : (x + 2 ^ M * y) &&& f = x &&& f := by
  have h0 : f = f + 2 ^ M * 0 := by lia
  have hx : x + 2 ^ M * y = x % 2 ^ M + 2 ^ M * (x / 2 ^ M + y) := by
    have := Nat.mod_add_div x (2 ^ M)
    rw [Nat.mul_add]; lia
  have hx2 : x = x % 2 ^ M + 2 ^ M * (x / 2 ^ M) := (Nat.mod_add_div x (2 ^ M)).symm
  have hm : x % 2 ^ M < 2 ^ M := Nat.mod_lt _ (Nat.two_pow_pos M)
  have e1 : (x + 2 ^ M * y) &&& f = (x % 2 ^ M &&& f) + 2 ^ M * ((x / 2 ^ M + y) &&& 0) := by
    conv => lhs; rw [hx, h0]
    exact andS hm hf
  have e2 : x &&& f = (x % 2 ^ M &&& f) + 2 ^ M * ((x / 2 ^ M) &&& 0) := by
    conv => lhs; rw [hx2, h0]
    exact andS hm hf
  rw [e1, e2, Nat.and_zero, Nat.and_zero]
section
variable {w N l0 l' a b : Nat}
noncomputable def fN (w L : Nat) : Nat := L * 2 ^ (w - 1) - L
theorem fN_le (w L : Nat) : fN w L ≤ L * 2 ^ (w - 1) := Nat.sub_le _ _
theorem f_split : fN w (l0 + 2 ^ N * l') = fN w l0 + 2 ^ N * fN w l' := by
  unfold fN
  have h1 : l0 ≤ l0 * 2 ^ (w - 1) := Nat.le_mul_of_pos_right _ (Nat.two_pow_pos _)
  have h2 : l' ≤ l' * 2 ^ (w - 1) := Nat.le_mul_of_pos_right _ (Nat.two_pow_pos _)
  rw [Nat.add_mul, Nat.mul_assoc, Nat.mul_sub]
  have h3 : 2 ^ N * l' ≤ 2 ^ N * (l' * 2 ^ (w - 1)) := Nat.mul_le_mul_left _ h2
  lia
structure Blk (w N l0 a : Nat) : Prop where
  w1 : 1 ≤ w
  wN : w ≤ N
  l : l0 * 2 ^ (w - 1) < 2 ^ (N - w)
  a : a < 2 ^ N
theorem Blk.l2 (H : Blk w N l0 a) : l0 * 2 ^ (w - 1) < 2 ^ N := Nat.lt_of_lt_of_le H.l (Nat.pow_le_pow_right (by decide) (Nat.sub_le _ _))
theorem Blk.f (H : Blk w N l0 a) : fN w l0 < 2 ^ N := Nat.lt_of_le_of_lt (fN_le _ _) H.l2
theorem low_split (H : Blk w N l0 a) : (a + 2 ^ N * b) &&& fN w (l0 + 2 ^ N * l') = (a &&& fN w l0) + 2 ^ N * (b &&& fN w l') := by
  rw [f_split, andS H.a H.f]
theorem pow_sub_mul {w N : Nat} (h : w ≤ N) : 2 ^ N = 2 ^ w * 2 ^ (N - w) := by rw [← Nat.pow_add]; congr 1; lia
theorem high_split (H : Blk w N l0 a) : ((a + 2 ^ N * b) / 2 ^ w) &&& fN w (l0 + 2 ^ N * l') = ((a / 2 ^ w) &&& fN w l0) + 2 ^ N * ((b / 2 ^ w) &&& fN w l') := by
  have e : (a + 2 ^ N * b) / 2 ^ w = (a / 2 ^ w + 2 ^ (N - w) * (b % 2 ^ w)) + 2 ^ N * (b / 2 ^ w) := by
    have h1 : a + 2 ^ N * b = a + 2 ^ w * (2 ^ (N - w) * b) := by rw [pow_sub_mul H.wN, Nat.mul_assoc]
    rw [h1, Nat.add_mul_div_left _ _ (Nat.two_pow_pos w)]
    have h2 := Nat.mod_add_div b (2 ^ w)
    have h3 : 2 ^ (N - w) * b = 2 ^ (N - w) * (b % 2 ^ w) + 2 ^ N * (b / 2 ^ w) := by
      conv => lhs; rw [← h2]
      rw [Nat.mul_add, pow_sub_mul H.wN, ← Nat.mul_assoc, Nat.mul_comm (2 ^ (N - w)) (2 ^ w)]
    lia
  have ha : a / 2 ^ w < 2 ^ (N - w) := by
    refine Nat.div_lt_of_lt_mul ?_
    rw [← pow_sub_mul H.wN]; exact H.a
  have hb : a / 2 ^ w + 2 ^ (N - w) * (b % 2 ^ w) < 2 ^ N := by
    have h1 : b % 2 ^ w < 2 ^ w := Nat.mod_lt _ (Nat.two_pow_pos w)
    have h2 : 2 ^ (N - w) * (b % 2 ^ w + 1) ≤ 2 ^ (N - w) * 2 ^ w := Nat.mul_le_mul_left _ h1
    rw [Nat.mul_comm (2 ^ (N - w)) (2 ^ w), ← pow_sub_mul H.wN] at h2
    rw [Nat.mul_add] at h2
    lia
  rw [e, f_split, andS hb H.f, and_low (Nat.lt_of_le_of_lt (fN_le _ _) H.l)]
theorem told_eq (w L W : Nat) : toldN w L W = ((((W / 2 ^ w) &&& fN w L) + L * 2 ^ (w - 1)) - (W &&& fN w L)) &&& (L * 2 ^ (w - 1)) := rfl
theorem change_eq (w L W : Nat) : changeN w L W = ((W &&& fN w L) ^^^ ((W / 2 ^ w) &&& fN w L)) &&& (toldN w L W - toldN w L W / 2 ^ (w - 1)) := rfl
theorem told_split (H : Blk w N l0 a) (hr : ((a / 2 ^ w) &&& fN w l0) + l0 * 2 ^ (w - 1) - (a &&& fN w l0) < 2 ^ N) : toldN w (l0 + 2 ^ N * l') (a + 2 ^ N * b) = toldN w l0 a + 2 ^ N * toldN w l' b := by
  rw [told_eq, told_eq, told_eq, low_split H, high_split H, Nat.add_mul, Nat.mul_assoc]
  have h1 : a &&& fN w l0 ≤ l0 * 2 ^ (w - 1) := Nat.le_trans Nat.and_le_right (fN_le _ _)
  have h2 : b &&& fN w l' ≤ l' * 2 ^ (w - 1) := Nat.le_trans Nat.and_le_right (fN_le _ _)
  rw [← andS hr H.l2]
  congr 1
  rw [Nat.mul_sub, Nat.mul_add]
  have h3 : 2 ^ N * (b &&& fN w l') ≤ 2 ^ N * (l' * 2 ^ (w - 1)) := Nat.mul_le_mul_left _ h2
  lia
theorem and_mul (x L k : Nat) : x &&& (L * 2 ^ k) = 2 ^ k * ((x / 2 ^ k) &&& L) := by
  refine Nat.eq_of_testBit_eq fun j => ?_
  rw [Nat.testBit_and, Nat.mul_comm L, Nat.testBit_two_pow_mul, Nat.testBit_two_pow_mul, Nat.testBit_and, Nat.testBit_div_two_pow]
  by_cases h : k ≤ j
  · simp only [h, decide_true, Bool.true_and, Nat.sub_add_cancel h]
  · simp only [h, decide_false, Bool.false_and, Bool.and_false]
theorem told_mul (w L W : Nat) : ∃ t, toldN w L W = 2 ^ (w - 1) * t ∧ toldN w L W / 2 ^ (w - 1) = t := by
  refine ⟨_, told_eq w L W ▸ and_mul _ _ _, ?_⟩
  rw [told_eq, and_mul, Nat.mul_div_cancel_left _ (Nat.two_pow_pos _)]
theorem change_split (H : Blk w N l0 a) (hr : ((a / 2 ^ w) &&& fN w l0) + l0 * 2 ^ (w - 1) - (a &&& fN w l0) < 2 ^ N) : changeN w (l0 + 2 ^ N * l') (a + 2 ^ N * b) = changeN w l0 a + 2 ^ N * changeN w l' b := by
  rw [change_eq, change_eq, change_eq, told_split H hr, low_split H, high_split H]
  have h1 : a &&& fN w l0 < 2 ^ N := Nat.lt_of_le_of_lt Nat.and_le_right H.f
  have h2 : (a / 2 ^ w) &&& fN w l0 < 2 ^ N := Nat.lt_of_le_of_lt Nat.and_le_right H.f
  rw [xorS h1 h2]
  obtain ⟨t0, e0, d0⟩ := told_mul w l0 a
  obtain ⟨t1, e1, d1⟩ := told_mul w l' b
  have hl : toldN w l0 a < 2 ^ N := Nat.lt_of_le_of_lt Nat.and_le_right H.l2
  have hd : (toldN w l0 a + 2 ^ N * toldN w l' b) / 2 ^ (w - 1) = t0 + 2 ^ N * t1 := by
    rw [e0, e1, ← Nat.mul_assoc, Nat.mul_comm (2 ^ N), Nat.mul_assoc, ← Nat.mul_add, Nat.mul_div_cancel_left _ (Nat.two_pow_pos _)]
  rw [hd, d0, d1]
  have g0 : t0 ≤ toldN w l0 a := by rw [e0]; exact Nat.le_mul_of_pos_left _ (Nat.two_pow_pos _)
  have g1 : t1 ≤ toldN w l' b := by rw [e1]; exact Nat.le_mul_of_pos_left _ (Nat.two_pow_pos _)
  have e : toldN w l0 a + 2 ^ N * toldN w l' b - (t0 + 2 ^ N * t1) = (toldN w l0 a - t0) + 2 ^ N * (toldN w l' b - t1) := by
    rw [Nat.mul_sub]
    have := Nat.mul_le_mul_left (2 ^ N) g1
    lia
  rw [e, andS (Nat.xor_lt_two_pow h1 h2) (by lia)]
theorem step_split (H : Blk w N l0 a) (hr : ((a / 2 ^ w) &&& fN w l0) + l0 * 2 ^ (w - 1) - (a &&& fN w l0) < 2 ^ N) : stepW w (l0 + 2 ^ N * l') (a + 2 ^ N * b) = stepW w l0 a + 2 ^ N * stepW w l' b := by
  unfold stepW
  rw [change_split H hr]
  have hc : changeN w l0 a < 2 ^ (N - w) := by
    refine Nat.lt_of_le_of_lt ?_ H.l
    exact Nat.le_trans Nat.and_le_right (Nat.le_trans (Nat.sub_le _ _) Nat.and_le_right)
  have hc1 : changeN w l0 a < 2 ^ N := Nat.lt_of_lt_of_le hc (Nat.pow_le_pow_right (by decide) (Nat.sub_le _ _))
  have hc2 : changeN w l0 a * 2 ^ w < 2 ^ N := by
    rw [pow_sub_mul H.wN, Nat.mul_comm (2 ^ w)]
    exact Nat.mul_lt_mul_of_pos_right hc (Nat.two_pow_pos w)
  rw [Nat.add_mul, Nat.mul_assoc, xorS hc1 hc2, xorS H.a (Nat.xor_lt_two_pow hc1 hc2)]
end
end Mine
end
section
open PySem PySem.W PyProof.Rows
namespace Mine
/-! slots, the lowest first -/
noncomputable def valN (w : Nat) : List Nat → Nat
  | [] => 0
  | x :: r => x + 2 ^ w * valN w r
noncomputable def evenR : List Nat → List Nat
  | x :: y :: r => (if x ≤ y then y else x) :: (if x ≤ y then x else y) :: evenR r
  | r => r
noncomputable def oddR : List Nat → List Nat
  | x :: r => x :: evenR r
  | [] => []
noncomputable def roundR (i : Nat) (xs : List Nat) : List Nat := if i % 2 = 0 then evenR xs else oddR xs
noncomputable def roundsR (xs : List Nat) : Nat → List Nat
  | 0 => xs
  | i + 1 => roundR i (roundsR xs i)
theorem evenR_perm : ∀ xs : List Nat, (evenR xs).Perm xs
  | [] => .refl _
  | [_] => .refl _
  | x :: y :: r => by
    simp only [evenR]
    by_cases h : x ≤ y
    · rw [if_pos h, if_pos h]
      exact (List.Perm.swap x y _).trans (((evenR_perm r).cons y).cons x)
    · rw [if_neg h, if_neg h]
      exact ((evenR_perm r).cons y).cons x
theorem oddR_perm : ∀ xs : List Nat, (oddR xs).Perm xs
  | [] => .refl _
  | x :: r => (evenR_perm r).cons x
theorem roundR_perm (i : Nat) (xs : List Nat) : (roundR i xs).Perm xs := by
  unfold roundR; split
  · exact evenR_perm xs
  · exact oddR_perm xs
theorem roundsR_perm (xs : List Nat) : ∀ i, (roundsR xs i).Perm xs
  | 0 => .refl _
  | i + 1 => (roundR_perm i _).trans (roundsR_perm xs i)
theorem and_mask {x k : Nat} (h : x < 2 ^ k) : x &&& (2 ^ k - 1) = x := by
  rw [Nat.and_two_pow_sub_one_eq_mod, Nat.mod_eq_of_lt h]
theorem xor_self_left (x y : Nat) : x ^^^ (x ^^^ y) = y := by rw [← Nat.xor_assoc, Nat.xor_self, Nat.zero_xor]
theorem xor_self_right (x y : Nat) : y ^^^ (x ^^^ y) = x := by rw [Nat.xor_comm x y, xor_self_left]
section
variable {w x y : Nat}
theorem step_pair (hw : 2 ≤ w) (hx : x < 2 ^ (w - 1)) (hy : y < 2 ^ (w - 1)) :
    (((x + 2 ^ w * y) / 2 ^ w &&& fN w 1) + 1 * 2 ^ (w - 1) - ((x + 2 ^ w * y) &&& fN w 1) < 2 ^ (2 * w)) ∧ stepW w 1 (x + 2 ^ w * y) = (if x ≤ y then y else x) + 2 ^ w * (if x ≤ y then x else y) := by
  have hp : 2 ^ w = 2 ^ (w - 1) * 2 := by rw [← Nat.pow_succ]; congr 1; lia
  have h0 := Nat.two_pow_pos (w - 1)
  have hxw : x < 2 ^ w := by lia
  have hyw : y < 2 ^ w := by lia
  have hf : fN w 1 = 2 ^ (w - 1) - 1 := by unfold fN; rw [Nat.one_mul]
  have elow : (x + 2 ^ w * y) &&& fN w 1 = x := by
    rw [hf, hp, Nat.mul_assoc, and_low (by lia), and_mask hx]
  have ediv : (x + 2 ^ w * y) / 2 ^ w = y := by
    rw [Nat.add_mul_div_left _ _ (Nat.two_pow_pos w), Nat.div_eq_of_lt hxw, Nat.zero_add]
  have ehigh : (x + 2 ^ w * y) / 2 ^ w &&& fN w 1 = y := by rw [ediv, hf, and_mask hy]
  have hle : 2 ^ w ≤ 2 ^ (2 * w) := Nat.pow_le_pow_right (by decide) (by lia)
  refine ⟨by rw [ehigh, elow, Nat.one_mul]; lia, ?_⟩
  have etold : toldN w 1 (x + 2 ^ w * y) = if x ≤ y then 2 ^ (w - 1) else 0 := by
    rw [told_eq, elow, ehigh, and_mul, Nat.and_one_is_mod, Nat.one_mul]
    by_cases h : x ≤ y
    · rw [if_pos h]
      have e : (y + 2 ^ (w - 1) - x) / 2 ^ (w - 1) = 1 := by
        rw [Nat.div_eq_iff h0]; lia
      rw [e, show 1 % 2 = 1 from rfl, Nat.mul_one]
    · rw [if_neg h, Nat.div_eq_of_lt (by lia), show 0 % 2 = 0 from rfl, Nat.mul_zero]
  have ech : changeN w 1 (x + 2 ^ w * y) = if x ≤ y then x ^^^ y else 0 := by
    rw [change_eq, elow, ehigh, etold]
    by_cases h : x ≤ y
    · rw [if_pos h, if_pos h, Nat.div_self h0, and_mask (Nat.xor_lt_two_pow hx hy)]
    · rw [if_neg h, if_neg h, Nat.zero_div, Nat.sub_zero, Nat.and_zero]
  unfold stepW
  rw [ech]
  by_cases h : x ≤ y
  · rw [if_pos h, if_pos h, if_pos h]
    have hc : x ^^^ y < 2 ^ w := Nat.xor_lt_two_pow hxw hyw
    have e1 : (x ^^^ y) ^^^ ((x ^^^ y) * 2 ^ w) = (x ^^^ y) + 2 ^ w * (x ^^^ y) := by
      have := xorS (N := w) (a := x ^^^ y) (b := 0) (c := 0) (d := x ^^^ y) hc (Nat.two_pow_pos w)
      rw [Nat.mul_zero, Nat.add_zero, Nat.zero_add, Nat.xor_zero, Nat.zero_xor] at this
      rw [Nat.mul_comm (x ^^^ y)]; exact this
    rw [e1, xorS hxw hc, xor_self_left, xor_self_right]
  · rw [if_neg h, if_neg h, if_neg h, Nat.zero_mul, Nat.xor_zero, Nat.xor_zero]
end
theorem step_none (w W : Nat) : stepW w 0 W = W := by
  unfold stepW changeN toldN
  simp
theorem val_even (w : Nat) (hw : 2 ≤ w) : ∀ (n : Nat) (xs : List Nat), xs.length / 2 = n → (∀ x ∈ xs, x < 2 ^ (w - 1)) → stepW w (everyN n (2 * w)) (valN w xs) = valN w (evenR xs)
  | 0, [], _, _ => by rw [every_zero, step_none]; rfl
  | 0, [_], _, _ => by rw [every_zero, step_none]; rfl
  | n + 1, x :: y :: r, hl, hb => by
    have hl' : r.length / 2 = n := by simp only [List.length_cons] at hl; lia
    have ih := val_even w hw n r hl' fun z hz => hb z (List.mem_cons_of_mem _ (List.mem_cons_of_mem _ hz))
    have hx := hb x List.mem_cons_self
    have hy := hb y (List.mem_cons_of_mem _ List.mem_cons_self)
    obtain ⟨h1, h2⟩ := step_pair hw hx hy
    have hp : 2 ^ w = 2 ^ (w - 1) * 2 := by rw [← Nat.pow_succ]; congr 1; lia
    have h0 := Nat.two_pow_pos (w - 1)
    have e2 : 2 ^ (2 * w) = 2 ^ w * 2 ^ w := by rw [← Nat.pow_add]; congr 1; lia
    have ha : x + 2 ^ w * y < 2 ^ (2 * w) := by
      have h3 : 2 ^ w * (y + 1) ≤ 2 ^ w * 2 ^ w := Nat.mul_le_mul_left _ (by lia)
      rw [Nat.mul_add] at h3
      lia
    have H : Blk w (2 * w) 1 (x + 2 ^ w * y) := ⟨by lia, by lia, by rw [show 2 * w - w = w by lia]; lia, ha⟩
    have ev : valN w (x :: y :: r) = (x + 2 ^ w * y) + 2 ^ (2 * w) * valN w r := by
      simp only [valN]
      rw [Nat.mul_add, e2, Nat.mul_assoc]; lia
    rw [ev, every_succ (by lia), step_split H h1, h2, ih]
    simp only [evenR, valN]
    rw [Nat.mul_add, e2, Nat.mul_assoc, Nat.add_assoc]
  | 0, _ :: _ :: r, hl, _ => by simp only [List.length_cons] at hl; lia
  | n + 1, [], hl, _ => by simp at hl
  | n + 1, [_], hl, _ => by simp at hl
theorem val_odd (w : Nat) (hw : 2 ≤ w) (n : Nat) : ∀ xs : List Nat, 1 ≤ xs.length → (xs.length - 1) / 2 = n → (∀ x ∈ xs, x < 2 ^ (w - 1)) → stepW w (everyN n (2 * w) * 2 ^ w) (valN w xs) = valN w (oddR xs)
  | [], h, _, _ => absurd h (by simp)
  | x :: r, _, hl, hb => by
    have ih := val_even w hw n r (by simpa using hl) fun z hz => hb z (List.mem_cons_of_mem _ hz)
    have hx := hb x List.mem_cons_self
    have hp : 2 ^ w = 2 ^ (w - 1) * 2 := by rw [← Nat.pow_succ]; congr 1; lia
    have H : Blk w w 0 x := ⟨by lia, by lia, by rw [Nat.zero_mul]; exact Nat.two_pow_pos _, by lia⟩
    have h1 : (x / 2 ^ w &&& fN w 0) + 0 * 2 ^ (w - 1) - (x &&& fN w 0) < 2 ^ w := by
      have : fN w 0 = 0 := by unfold fN; simp
      rw [this, Nat.and_zero, Nat.and_zero, Nat.zero_mul]; exact Nat.two_pow_pos w
    have e : everyN n (2 * w) * 2 ^ w = 0 + 2 ^ w * everyN n (2 * w) := by rw [Nat.mul_comm, Nat.zero_add]
    rw [e]
    show stepW w _ (x + 2 ^ w * valN w r) = _
    rw [step_split H h1, step_none, ih]; rfl
theorem rounds_bound {w : Nat} {xs : List Nat} (hb : ∀ x ∈ xs, x < 2 ^ (w - 1)) (i : Nat) : ∀ x ∈ roundsR xs i, x < 2 ^ (w - 1) := fun x hx => hb x ((roundsR_perm xs i).mem_iff.mp hx)
theorem val_run (w : Nat) (hw : 2 ≤ w) {m : Nat} {xs : List Nat} (hm : xs.length = m) (h1 : 1 ≤ m) (hb : ∀ x ∈ xs, x < 2 ^ (w - 1)) : ∀ i, runN m w (valN w xs) i = valN w (roundsR xs i)
  | 0 => rfl
  | i + 1 => by
    show stepW w (lowN m w (i % 2)) (runN m w (valN w xs) i) = valN w (roundR i (roundsR xs i))
    rw [val_run w hw hm h1 hb i]
    have hl : (roundsR xs i).length = m := by rw [(roundsR_perm xs i).length_eq, hm]
    unfold lowN roundR
    by_cases h : i % 2 = 0
    · rw [if_pos h, if_pos h, val_even w hw _ _ (by rw [hl]) (rounds_bound hb i)]
    · rw [if_neg h, if_neg h, val_odd w hw _ _ (by rw [hl]; exact h1) (by rw [hl]) (rounds_bound hb i)]
/-! nought and one -/
noncomputable def stepF (c x : Nat) : Nat := if c ≤ x then 1 else 0
theorem stepF_mono {c x y : Nat} (h : x ≤ y) : stepF c x ≤ stepF c y := by
  unfold stepF
  split
  · rw [if_pos (by lia)]; exact Nat.le_refl _
  · exact Nat.zero_le _
theorem even_map (c : Nat) : ∀ xs : List Nat, evenR (xs.map (stepF c)) = (evenR xs).map (stepF c)
  | [] => rfl
  | [_] => rfl
  | x :: y :: r => by
    have ih := even_map c r
    simp only [List.map_cons, evenR, ih]
    by_cases h : x ≤ y
    · have h1 := stepF_mono (c := c) h
      rw [if_pos h1, if_pos h1, if_pos h, if_pos h]
    · have h1 := stepF_mono (c := c) (Nat.le_of_lt (Nat.lt_of_not_le h))
      rw [if_neg h, if_neg h]
      by_cases h2 : stepF c x ≤ stepF c y
      · rw [if_pos h2, if_pos h2, Nat.le_antisymm h1 h2]
      · rw [if_neg h2, if_neg h2]
theorem odd_map (c : Nat) : ∀ xs : List Nat, oddR (xs.map (stepF c)) = (oddR xs).map (stepF c)
  | [] => rfl
  | x :: r => by simp only [List.map_cons, oddR, even_map c r]
theorem rounds_map (c : Nat) (xs : List Nat) : ∀ i, roundsR (xs.map (stepF c)) i = (roundsR xs i).map (stepF c)
  | 0 => rfl
  | i + 1 => by
    simp only [roundsR, rounds_map c xs i]
    unfold roundR
    split
    · exact even_map c _
    · exact odd_map c _
noncomputable def descB : List Nat → Bool
  | x :: y :: r => Nat.ble y x && descB (y :: r)
  | _ => true
noncomputable def allB : Nat → List (List Nat)
  | 0 => [[]]
  | n + 1 => (allB n).flatMap fun r => [0 :: r, 1 :: r]
theorem allB_mem : ∀ (n : Nat) (b : List Nat), b.length = n → (∀ x ∈ b, x = 0 ∨ x = 1) → b ∈ allB n
  | 0, b, h, _ => by rw [List.length_eq_zero_iff.mp h]; exact List.mem_cons_self
  | n + 1, [], h, _ => by simp at h
  | n + 1, x :: r, h, hb => by
    have ih := allB_mem n r (by simpa using h) fun z hz => hb z (List.mem_cons_of_mem _ hz)
    refine List.mem_flatMap.mpr ⟨r, ih, ?_⟩
    rcases hb x List.mem_cons_self with rfl | rfl
    · exact List.mem_cons_self
    · exact List.mem_cons_of_mem _ List.mem_cons_self
theorem net5 : (allB 5).all (fun b => descB (roundsR b 5)) = true := by decide +kernel
theorem net6 : (allB 6).all (fun b => descB (roundsR b 6)) = true := by decide +kernel
theorem net7 : (allB 7).all (fun b => descB (roundsR b 7)) = true := by decide +kernel
theorem net8 : (allB 8).all (fun b => descB (roundsR b 8)) = true := by decide +kernel
theorem net_all {m : Nat} (h5 : 5 ≤ m) (h8 : m ≤ 8) {b : List Nat} (hb : b ∈ allB m) : descB (roundsR b m) = true := by
  have h : m = 5 ∨ m = 6 ∨ m = 7 ∨ m = 8 := by lia
  rcases h with rfl | rfl | rfl | rfl
  · exact List.all_eq_true.mp net5 b hb
  · exact List.all_eq_true.mp net6 b hb
  · exact List.all_eq_true.mp net7 b hb
  · exact List.all_eq_true.mp net8 b hb
theorem desc_of_map : ∀ l : List Nat, (∀ c, descB (l.map (stepF c)) = true) → descB l = true
  | [], _ => rfl
  | [_], _ => rfl
  | x :: y :: r, h => by
    have ih := desc_of_map (y :: r) fun c => by
      have := h c
      simp only [List.map_cons, descB, Bool.and_eq_true] at this ⊢
      exact this.2
    have hy := h y
    simp only [List.map_cons, descB, Bool.and_eq_true, Nat.ble_eq] at hy
    have h1 : y ≤ x := by
      have h2 := hy.1
      unfold stepF at h2
      rw [if_pos (Nat.le_refl y)] at h2
      by_cases h3 : y ≤ x
      · exact h3
      · rw [if_neg h3] at h2; lia
    simp only [descB, Bool.and_eq_true, Nat.ble_eq]
    exact ⟨h1, ih⟩
theorem desc_pairwise : ∀ l : List Nat, descB l = true → l.Pairwise (fun a b => b ≤ a)
  | [], _ => .nil
  | [_], _ => List.pairwise_singleton _ _
  | x :: y :: r, h => by
    simp only [descB, Bool.and_eq_true, Nat.ble_eq] at h
    have ih := desc_pairwise (y :: r) h.2
    refine List.pairwise_cons.mpr ⟨fun z hz => ?_, ih⟩
    rcases List.mem_cons.mp hz with rfl | hz
    · exact h.1
    · exact Nat.le_trans ((List.pairwise_cons.mp ih).1 z hz) h.1
theorem rounds_sorted {m : Nat} (h5 : 5 ≤ m) (h8 : m ≤ 8) {xs : List Nat} (hm : xs.length = m) : (roundsR xs m).Pairwise (fun a b => b ≤ a) := by
  refine desc_pairwise _ (desc_of_map _ fun c => ?_)
  rw [← rounds_map]
  refine net_all h5 h8 (allB_mem m _ (by rw [List.length_map]; exact hm) fun z hz => ?_)
  obtain ⟨x, _, rfl⟩ := List.mem_map.mp hz
  unfold stepF
  split
  · exact .inr rfl
  · exact .inl rfl
theorem sorted_same {a b : List Nat} (hp : a.Perm b) (ha : a.Pairwise (· ≤ ·)) (hb : b.Pairwise (· ≤ ·)) : a = b :=
  List.Perm.eq_of_pairwise (fun _ _ _ _ h1 h2 => Nat.le_antisymm h1 h2) ha hb hp
noncomputable def wordN (B : Nat) (xs : List Nat) : Nat := xs.foldl (fun a x => a * B + x) 0
theorem wordN_snoc (B : Nat) (xs : List Nat) (x : Nat) : wordN B (xs ++ [x]) = wordN B xs * B + x := by unfold wordN; rw [List.foldl_append]; rfl
theorem word_val (w : Nat) (xs : List Nat) : wordN (2 ^ w) xs = valN w xs.reverse := by
  refine snoc_ind (P := fun xs => wordN (2 ^ w) xs = valN w xs.reverse) rfl (fun xs x ih => ?_) xs
  rw [wordN_snoc, List.reverse_append, ih]
  show _ = x + 2 ^ w * valN w xs.reverse
  rw [Nat.mul_comm]; lia
theorem run_sorted {m w : Nat} (h5 : 5 ≤ m) (h8 : m ≤ 8) (hw : 9 ≤ w) {row rs : List Nat} (hm : row.length = m) (hb : ∀ x ∈ row, x < m) (hp : rs.Perm row) (hs : rs.Pairwise (· ≤ ·)) :
    runN m w (wordN (2 ^ w) row) m = wordN (2 ^ w) rs := by
  have h256 : 2 ^ 8 ≤ 2 ^ (w - 1) := Nat.pow_le_pow_right (by decide) (by lia)
  have hbb : ∀ x ∈ row.reverse, x < 2 ^ (w - 1) := fun x hx => by
    have := hb x (List.mem_reverse.mp hx)
    lia
  rw [word_val, val_run w (by lia) (by rw [List.length_reverse, hm]) (by lia) hbb m, word_val]
  congr 1
  have hP := roundsR_perm row.reverse m
  have hS := rounds_sorted h5 h8 (xs := row.reverse) (by rw [List.length_reverse, hm])
  have e : rs = (roundsR row.reverse m).reverse := by
    refine sorted_same ?_ hs (List.pairwise_reverse.mpr hS)
    exact hp.trans ((List.reverse_perm row).symm.trans (hP.symm.trans (List.reverse_perm _).symm))
  rw [e, List.reverse_reverse]
end Mine
end
section
open PySem PySem.W PyProof.Rows
namespace Mine
/-! words out of m slots, the highest first -/
noncomputable def WN (w m : Nat) (f : Nat → Nat) : Nat := wordN (2 ^ w) ((List.range m).map f)
section
variable {w : Nat}
theorem WN_zero (f : Nat → Nat) : WN w 0 f = 0 := rfl
theorem WN_succ (m : Nat) (f : Nat → Nat) : WN w (m + 1) f = WN w m f * 2 ^ w + f m := by
  unfold WN
  rw [List.range_succ, List.map_append, List.map_cons, List.map_nil, wordN_snoc]
theorem WN_succ' (m : Nat) (f : Nat → Nat) : WN w (m + 1) f = f m + 2 ^ w * WN w m f := by rw [WN_succ, Nat.mul_comm]; lia
theorem WN_congr {f g : Nat → Nat} : ∀ m, (∀ j, j < m → f j = g j) → WN w m f = WN w m g
  | 0, _ => rfl
  | m + 1, h => by rw [WN_succ, WN_succ, WN_congr m fun j hj => h j (by lia), h m (by lia)]
theorem WN_add (f g : Nat → Nat) : ∀ m, WN w m f + WN w m g = WN w m fun j => f j + g j
  | 0 => rfl
  | m + 1 => by rw [WN_succ, WN_succ, WN_succ, ← WN_add f g m, Nat.add_mul]; lia
theorem WN_mul (f : Nat → Nat) (c : Nat) : ∀ m, WN w m f * c = WN w m fun j => f j * c
  | 0 => by rw [WN_zero, WN_zero, Nat.zero_mul]
  | m + 1 => by rw [WN_succ, WN_succ, ← WN_mul f c m, Nat.add_mul, Nat.mul_assoc, Nat.mul_comm (2 ^ w) c, ← Nat.mul_assoc]
theorem WN_le {f g : Nat → Nat} : ∀ m, (∀ j, j < m → f j ≤ g j) → WN w m f ≤ WN w m g
  | 0, _ => Nat.le_refl _
  | m + 1, h => by
    rw [WN_succ, WN_succ]
    exact Nat.add_le_add (Nat.mul_le_mul_right _ (WN_le m fun j hj => h j (by lia))) (h m (by lia))
theorem WN_sub {f g : Nat → Nat} (m : Nat) (h : ∀ j, j < m → g j ≤ f j) : WN w m f - WN w m g = WN w m fun j => f j - g j := by
  have h1 : WN w m (fun j => f j - g j) + WN w m g = WN w m f := by
    rw [WN_add]
    exact WN_congr m fun j hj => Nat.sub_add_cancel (h j hj)
  lia
theorem WN_lt {f : Nat → Nat} : ∀ m, (∀ j, j < m → f j < 2 ^ w) → WN w m f < 2 ^ (m * w)
  | 0, _ => by rw [WN_zero]; exact Nat.two_pow_pos _
  | m + 1, h => by
    have h1 := WN_lt m fun j hj => h j (by lia)
    have h2 := h m (by lia)
    have h3 : (WN w m f + 1) * 2 ^ w ≤ 2 ^ (m * w) * 2 ^ w := Nat.mul_le_mul_right _ h1
    rw [WN_succ, Nat.succ_mul, Nat.pow_add]
    rw [Nat.add_mul] at h3
    lia
theorem WN_and {f g : Nat → Nat} : ∀ m, (∀ j, j < m → f j < 2 ^ w) → (∀ j, j < m → g j < 2 ^ w) → WN w m f &&& WN w m g = WN w m fun j => f j &&& g j
  | 0, _, _ => by simp [WN_zero]
  | m + 1, hf, hg => by
    rw [WN_succ', WN_succ', WN_succ', andS (hf m (by lia)) (hg m (by lia)), WN_and m (fun j hj => hf j (by lia)) fun j hj => hg j (by lia)]
theorem WN_xor {f g : Nat → Nat} : ∀ m, (∀ j, j < m → f j < 2 ^ w) → (∀ j, j < m → g j < 2 ^ w) → WN w m f ^^^ WN w m g = WN w m fun j => f j ^^^ g j
  | 0, _, _ => by simp [WN_zero]
  | m + 1, hf, hg => by
    rw [WN_succ', WN_succ', WN_succ', xorS (hf m (by lia)) (hg m (by lia)), WN_xor m (fun j hj => hf j (by lia)) fun j hj => hg j (by lia)]
theorem WN_inj {f g : Nat → Nat} : ∀ m, (∀ j, j < m → f j < 2 ^ w) → (∀ j, j < m → g j < 2 ^ w) → WN w m f = WN w m g → ∀ j, j < m → f j = g j
  | 0, _, _, _ => fun j hj => absurd hj (Nat.not_lt_zero j)
  | m + 1, hf, hg, h => by
    rw [WN_succ', WN_succ'] at h
    have e1 := congrArg (· % 2 ^ w) h
    have e2 := congrArg (· / 2 ^ w) h
    simp only [Nat.add_mul_mod_self_left, Nat.mod_eq_of_lt (hf m (by lia)), Nat.mod_eq_of_lt (hg m (by lia))] at e1
    simp only [Nat.add_mul_div_left _ _ (Nat.two_pow_pos w), Nat.div_eq_of_lt (hf m (by lia)), Nat.div_eq_of_lt (hg m (by lia)), Nat.zero_add] at e2
    intro j hj
    by_cases hjm : j = m
    · subst hjm; exact e1
    · exact WN_inj m (fun j hj => hf j (by lia)) (fun j hj => hg j (by lia)) e2 j (by lia)
theorem every_WN (h1 : 1 ≤ w) : ∀ m, everyN m w = WN w m fun _ => 1
  | 0 => by rw [every_zero, WN_zero]
  | m + 1 => by rw [every_succ h1, every_WN h1 m, WN_succ']
theorem WN_bit {f : Nat → Nat} {b : Nat} (hb : b < w) : ∀ m, (∀ j, j < m → f j < 2 ^ w) → ∀ j, j < m → (WN w m f).testBit ((m - 1 - j) * w + b) = (f j).testBit b
  | 0, _, j, hj => absurd hj (Nat.not_lt_zero j)
  | m + 1, hf, j, hj => by
    rw [WN_succ', Nat.add_comm, Nat.testBit_two_pow_mul_add _ (hf m (by lia))]
    by_cases hjm : j = m
    · subst hjm
      rw [show j + 1 - 1 - j = 0 by lia, Nat.zero_mul, Nat.zero_add, if_pos hb]
    · have e : m + 1 - 1 - j = (m - 1 - j) + 1 := by lia
      rw [e, Nat.succ_mul, if_neg (by lia), show (m - 1 - j) * w + w + b - w = (m - 1 - j) * w + b by lia]
      exact WN_bit hb m (fun j hj => hf j (by lia)) j (by lia)
theorem word_WN (xs : List Nat) : wordN (2 ^ w) xs = WN w xs.length fun j => xs.getD j 0 := by
  unfold WN
  congr 1
  refine List.ext_getElem (by simp) fun i h1 h2 => ?_
  simp [List.getD_eq_getElem?_getD, h1]
theorem take_sum_succ (xs : List Nat) {i : Nat} (h : i < xs.length) : (xs.take (i + 1)).sum = (xs.take i).sum + xs.getD i 0 := by
  rw [take_snoc xs 0 h, List.sum_append]; simp
theorem sums_word (xs : List Nat) : ∀ i, i ≤ xs.length → wordN (2 ^ w) (xs.take i) * 2 ^ w = (2 ^ w - 1) * WN w i (fun j => (xs.take (j + 1)).sum) + (xs.take i).sum
  | 0, _ => by simp [wordN, WN_zero]
  | i + 1, h => by
    have ih := sums_word xs i (by lia)
    have h0 := Nat.two_pow_pos w
    rw [take_snoc xs 0 (by lia), wordN_snoc, ih, WN_succ, ← take_snoc xs 0 (by lia), take_sum_succ xs (by lia)]
    generalize WN w i (fun j => (xs.take (j + 1)).sum) = S
    generalize (xs.take i).sum = T
    generalize xs.getD i 0 = x
    generalize 2 ^ w = B at h0
    obtain ⟨b, rfl⟩ : ∃ b, B = b + 1 := ⟨B - 1, by lia⟩
    simp only [Nat.add_sub_cancel]
    simp only [Nat.add_mul, Nat.mul_add, Nat.mul_one, Nat.mul_assoc, Nat.mul_comm T b, Nat.mul_comm x b]
    lia
theorem sums_div (hw : 9 ≤ w) {xs : List Nat} (ht : xs.sum < 511) :
    wordN (2 ^ w) xs * 2 ^ w / (2 ^ w - 1) = WN w xs.length (fun j => (xs.take (j + 1)).sum) ∧ wordN (2 ^ w) xs * 2 ^ w % (2 ^ w - 1) = xs.sum := by
  have h := sums_word (w := w) xs xs.length (Nat.le_refl _)
  rw [List.take_length] at h
  have h512 : 2 ^ 9 ≤ 2 ^ w := Nat.pow_le_pow_right (by decide) hw
  have hlt : xs.sum < 2 ^ w - 1 := by lia
  rw [h]
  refine ⟨?_, ?_⟩
  · rw [Nat.mul_add_div (by lia), Nat.div_eq_of_lt hlt, Nat.add_zero]
  · rw [Nat.mul_add_mod, Nat.mod_eq_of_lt hlt]
end
end Mine
end
section
open PySem PySem.W PyProof.Rows
namespace Mine
theorem slot_and {k v : Nat} (hv : v < 2 ^ k * 2) : v &&& 2 ^ k = if 2 ^ k ≤ v then 2 ^ k else 0 := by
  have h0 := Nat.two_pow_pos k
  have e : 2 ^ k = 1 * 2 ^ k := by lia
  have h1 : v &&& 2 ^ k = 2 ^ k * (v / 2 ^ k &&& 1) := by
    conv => lhs; rw [e]
    exact and_mul v 1 k
  rw [h1, Nat.and_one_is_mod]
  by_cases h : 2 ^ k ≤ v
  · rw [if_pos h]
    have e2 : v / 2 ^ k = 1 := by rw [Nat.div_eq_iff h0]; lia
    rw [e2, show 1 % 2 = 1 from rfl, Nat.mul_one]
  · rw [if_neg h, Nat.div_eq_of_lt (by lia), show 0 % 2 = 0 from rfl, Nat.mul_zero]
structure Slots (w m : Nat) (s n : Nat → Nat) : Prop where
  w9 : 9 ≤ w
  hs : ∀ j, j < m → s j < 200
  hn : ∀ j, j < m → n j < 100
section
variable {w m : Nat} {s n : Nat → Nat}
theorem Slots.h (H : Slots w m s n) : 2 ^ w = 2 ^ (w - 1) * 2 ∧ 256 ≤ 2 ^ (w - 1) := by
  have := H.w9
  have h256 : 2 ^ 8 ≤ 2 ^ (w - 1) := Nat.pow_le_pow_right (by decide) (by lia)
  exact ⟨by rw [← Nat.pow_succ]; congr 1; lia, h256⟩
noncomputable def marksN (m w : Nat) : Nat := everyN m w * 2 ^ (w - 1)
theorem Slots.marks (H : Slots w m s n) : marksN m w = WN w m fun _ => 2 ^ (w - 1) := by
  unfold marksN
  rw [every_WN (by have := H.w9; lia), WN_mul]
  exact WN_congr m fun j _ => Nat.one_mul _
noncomputable def aboveN (m w : Nat) (s n : Nat → Nat) : Nat := WN w m fun j => s j + 2 ^ (w - 1) - n j
theorem Slots.above (H : Slots w m s n) : WN w m s + marksN m w - WN w m n = aboveN m w s n := by
  have ⟨_, h2⟩ := H.h
  rw [H.marks, WN_add, WN_sub m fun j hj => ?_]
  · rfl
  · have := H.hn j hj; lia
theorem Slots.need_le (H : Slots w m s n) : WN w m n ≤ WN w m s + marksN m w := by
  have ⟨_, h2⟩ := H.h
  rw [H.marks, WN_add]
  exact WN_le m fun j hj => by have := H.hn j hj; lia
theorem Slots.enough (H : Slots w m s n) : (aboveN m w s n &&& marksN m w = marksN m w) ↔ ∀ j, j < m → n j ≤ s j := by
  have ⟨h1, h2⟩ := H.h
  have hb1 : ∀ j, j < m → s j + 2 ^ (w - 1) - n j < 2 ^ w := fun j hj => by have := H.hs j hj; lia
  have hb2 : ∀ j, j < m → 2 ^ (w - 1) < 2 ^ w := fun j hj => by lia
  have e : aboveN m w s n &&& marksN m w = WN w m fun j => (s j + 2 ^ (w - 1) - n j) &&& 2 ^ (w - 1) := by
    rw [H.marks]; exact WN_and m hb1 hb2
  rw [e, H.marks]
  constructor
  · intro h j hj
    have := WN_inj m (fun j hj => Nat.lt_of_le_of_lt Nat.and_le_right (hb2 j hj)) hb2 h j hj
    rw [slot_and (by rw [← h1]; exact hb1 j hj)] at this
    split at this
    · lia
    · lia
  · intro h
    refine WN_congr m fun j hj => ?_
    have := h j hj
    rw [slot_and (by rw [← h1]; exact hb1 j hj), if_pos (by lia)]
noncomputable def tightN (m w : Nat) (s n : Nat → Nat) : Nat := ((aboveN m w s n - everyN m w) &&& marksN m w) ^^^ marksN m w
theorem Slots.ones_le (H : Slots w m s n) : everyN m w ≤ aboveN m w s n := by
  have ⟨_, h2⟩ := H.h
  rw [every_WN (by have := H.w9; lia)]
  exact WN_le m fun j hj => by have := H.hn j hj; lia
theorem Slots.tight (H : Slots w m s n) : tightN m w s n = WN w m fun j => if n j < s j then 0 else 2 ^ (w - 1) := by
  have ⟨h1, h2⟩ := H.h
  have hb1 : ∀ j, j < m → s j + 2 ^ (w - 1) - n j - 1 < 2 ^ w := fun j hj => by have := H.hs j hj; lia
  have hb2 : ∀ j, j < m → 2 ^ (w - 1) < 2 ^ w := fun j hj => by lia
  have e1 : aboveN m w s n - everyN m w = WN w m fun j => s j + 2 ^ (w - 1) - n j - 1 := by
    rw [every_WN (by have := H.w9; lia)]
    exact WN_sub m fun j hj => by have := H.hn j hj; lia
  unfold tightN
  rw [e1, H.marks, WN_and m hb1 hb2, WN_xor m (fun j hj => Nat.lt_of_le_of_lt Nat.and_le_right (hb2 j hj)) hb2]
  refine WN_congr m fun j hj => ?_
  have := H.hn j hj
  rw [slot_and (by rw [← h1]; exact hb1 j hj)]
  by_cases h : n j < s j
  · rw [if_pos h, if_pos (by lia), Nat.xor_self]
  · rw [if_neg h, if_neg (by lia), Nat.zero_xor]
theorem Slots.bit (H : Slots w m s n) {j : Nat} (hj : j < m) : (tightN m w s n).testBit ((m - 1 - j) * w + (w - 1)) = decide (s j ≤ n j) := by
  have ⟨h1, h2⟩ := H.h
  have := H.w9
  rw [H.tight, WN_bit (by lia) m (fun j _ => by split <;> lia) j hj]
  by_cases h : n j < s j
  · rw [if_pos h, Nat.zero_testBit]; exact (decide_eq_false (by lia)).symm
  · rw [if_neg h, Nat.testBit_two_pow_self]; exact (decide_eq_true (by lia)).symm
end
end Mine
end
section
open PySem PySem.W PyProof.Rows
namespace Mine
/-! the building of a league, in a plain form -/
noncomputable abbrev cI (x : Nat) : Int := (x : Int)
theorem decr_len (xs : List Nat) (wins : List Int) : (decrI wins (xs.map cI)).length = wins.length := decrI_len _ _
theorem decr_getD : ∀ (xs : List Nat) (wins : List Int) (i : Nat), xs.Nodup → (∀ x ∈ xs, x < wins.length) → (decrI wins (xs.map cI)).getD i 0 = wins.getD i 0 - (if i ∈ xs then 1 else 0)
  | [], wins, i, _, _ => by
    show wins.getD i 0 = _
    rw [if_neg (by simp), Int.sub_zero]
  | x :: r, wins, i, hn, hb => by
    have hx := hb x List.mem_cons_self
    have ⟨h1, h2⟩ := List.nodup_cons.mp hn
    show (decrI (wins.set x (wins.getD x 0 - 1)) (r.map cI)).getD i 0 = _
    rw [decr_getD r _ i h2 fun y hy => by rw [List.length_set]; exact hb y (List.mem_cons_of_mem _ hy)]
    by_cases hi : i = x
    · subst hi
      rw [if_neg h1, if_pos List.mem_cons_self]
      simp only [List.getD_eq_getElem?_getD, List.getElem?_set_self hx, Option.getD_some]
      lia
    · have e : (wins.set x (wins.getD x 0 - 1)).getD i 0 = wins.getD i 0 := by
        simp only [List.getD_eq_getElem?_getD]
        rw [List.getElem?_set_ne (Ne.symm hi)]
      rw [e]
      by_cases h : i ∈ r
      · rw [if_pos h, if_pos (List.mem_cons_of_mem _ h)]
      · rw [if_neg h, if_neg (by simp [hi, h])]
theorem LgR.plain {row : List Int} {P : List Int → List Nat → List (Int × Int) → Prop} (h0 : P row (List.range row.length) [])
    (h1 : ∀ wins left init (F W : Nat) ts, P wins left ts → (init ++ [F]).Perm left → LgSorted wins (init ++ [F]) → wins.getD F 0 = (W : Int) → W ≤ init.length →
      P (decrI wins ((init.drop W).map cI)) init (ts ++ (init.take W).map (fun x => (cI F, cI x)) ++ (init.drop W).map (fun x => (cI x, cI F)))) :
    ∀ {wins left ts}, LgR row wins left ts → P wins left ts := by
  intro wins left ts h
  induction h with
  | start => exact h0
  | @step wins left left1 ts FI L5 h hp hs hl h5 hF g0 g1 ih =>
    have hne : left1 ≠ [] := by intro e; rw [e] at hp; rw [← hp.length_eq] at hl; simp at hl
    obtain ⟨init, F, rfl⟩ : ∃ init F, left1 = init ++ [F] := ⟨left1.dropLast, left1.getLast hne, (List.dropLast_concat_getLast hne).symm⟩
    have e5 : L5 = init.map cI := by rw [h5, List.map_append, List.map_cons, List.map_nil, List.dropLast_concat]
    have eF : FI = (F : Int) := by
      rw [← hF, List.map_append, List.map_cons, List.map_nil, List.getLastD_eq_getLast?, List.getLast?_concat]; rfl
    subst e5; subst eF
    rw [Int.toNat_natCast] at g0 g1 ⊢
    rw [List.length_map] at g1
    obtain ⟨W, hW⟩ : ∃ W : Nat, wins.getD F 0 = (W : Int) := ⟨(wins.getD F 0).toNat, (Int.toNat_of_nonneg g0).symm⟩
    rw [hW] at g1 ⊢
    rw [Int.toNat_natCast, List.dropLast_concat, ← List.map_take, ← List.map_drop, List.map_map, List.map_map]
    exact h1 wins left init F W ts ih hp hs hW (by lia)
structure LgI (row wins : List Int) (left : List Nat) : Prop where
  len : wins.length = row.length
  nd : left.Nodup
  lt : ∀ x ∈ left, x < row.length
theorem LgI.start (row : List Int) : LgI row row (List.range row.length) := ⟨rfl, List.nodup_range, fun _ h => List.mem_range.mp h⟩
theorem LgI.step {row wins : List Int} {left init : List Nat} {F W : Nat} (H : LgI row wins left) (hp : (init ++ [F]).Perm left) : LgI row (decrI wins ((init.drop W).map cI)) init ∧ init.Nodup ∧ F ∉ init ∧ F < row.length ∧ (∀ x ∈ init, x < wins.length) := by
  have hn : (init ++ [F]).Nodup := hp.nodup_iff.mpr H.nd
  have h1 : ∀ x ∈ init, x < row.length := fun x hx => H.lt x (hp.mem_iff.mp (List.mem_append_left _ hx))
  have hi : init.Nodup := hn.sublist (List.sublist_append_left _ _)
  refine ⟨⟨by rw [decr_len, H.len], hi, h1⟩, hi, fun h => ?_, H.lt F (hp.mem_iff.mp (List.mem_append_right _ List.mem_cons_self)), fun x hx => by rw [H.len]; exact h1 x hx⟩
  have := (List.nodup_append.mp hn).2.2 F h F List.mem_cons_self
  exact this rfl
/-! counting -/
noncomputable def tri (k : Nat) : Nat := k * (k - 1) / 2
theorem tri_succ (k : Nat) : tri (k + 1) = tri k + k := by
  unfold tri
  cases k with
  | zero => rfl
  | succ n =>
    show (n + 1 + 1) * (n + 1) / 2 = (n + 1) * n / 2 + (n + 1)
    have e : (n + 1 + 1) * (n + 1) = (n + 1) * n + 2 * (n + 1) := by
      rw [Nat.add_mul (n + 1) 1, Nat.mul_add (n + 1) n 1]; lia
    rw [e, Nat.add_mul_div_left _ _ (by decide)]
noncomputable def isum' (wins : List Int) (l : List Nat) : Int := (l.map fun x => wins.getD x 0).sum
theorem isum'_perm {wins : List Int} {a b : List Nat} (h : a.Perm b) : isum' wins a = isum' wins b := sum_perm (h.map _)
theorem isum'_append (wins : List Int) (a b : List Nat) : isum' wins (a ++ b) = isum' wins a + isum' wins b := by
  unfold isum'; rw [List.map_append, List.sum_append]
theorem isum'_decr {wins : List Int} {init : List Nat} {W : Nat} (hn : init.Nodup) (hb : ∀ x ∈ init, x < wins.length) (p : Nat → Bool) :
    isum' (decrI wins ((init.drop W).map cI)) (init.filter p) + (((init.drop W).filter p).length : Int) = isum' wins (init.filter p) := by
  have hd : ∀ x, (decrI wins ((init.drop W).map cI)).getD x 0 = wins.getD x 0 - (if x ∈ init.drop W then 1 else 0) := fun x =>
    decr_getD _ _ x (hn.sublist (List.drop_sublist _ _)) fun y hy => hb y (List.mem_of_mem_drop hy)
  have hsplit : init = init.take W ++ init.drop W := (List.take_append_drop W init).symm
  have hdis : ∀ x ∈ init.take W, x ∉ init.drop W := fun x hx hy => by
    rw [hsplit] at hn
    exact (List.nodup_append.mp hn).2.2 x hx x hy rfl
  have e1 : init.filter p = (init.take W).filter p ++ (init.drop W).filter p := by
    conv => lhs; rw [hsplit]
    rw [List.filter_append]
  rw [e1, isum'_append, isum'_append]
  have e2 : isum' (decrI wins ((init.drop W).map cI)) ((init.take W).filter p) = isum' wins ((init.take W).filter p) := by
    unfold isum'
    congr 1
    refine List.map_congr_left fun x hx => ?_
    rw [hd, if_neg (hdis x (List.mem_filter.mp hx).1), Int.sub_zero]
  have e3 : ∀ l : List Nat, (∀ x ∈ l, x ∈ init.drop W) → isum' (decrI wins ((init.drop W).map cI)) l + (l.length : Int) = isum' wins l := by
    intro l
    induction l with
    | nil => intro _; rfl
    | cons y r ih =>
      intro hl
      have := ih fun x hx => hl x (List.mem_cons_of_mem _ hx)
      unfold isum' at this ⊢
      rw [List.map_cons, List.map_cons, List.sum_cons, List.sum_cons, hd, if_pos (hl y List.mem_cons_self), List.length_cons]
      lia
  have e4 := e3 ((init.drop W).filter p) fun x hx => (List.mem_filter.mp hx).1
  lia
noncomputable def wonN (p : Nat → Bool) (ts : List (Int × Int)) : Nat := ts.countP fun e => p e.1.toNat
noncomputable def inN (p : Nat → Bool) (ts : List (Int × Int)) : Nat := ts.countP fun e => p e.1.toNat && p e.2.toNat
noncomputable def outN (p : Nat → Bool) (ts : List (Int × Int)) : Nat := ts.countP fun e => p e.1.toNat && !p e.2.toNat
theorem won_in_out (p : Nat → Bool) (ts : List (Int × Int)) : wonN p ts = inN p ts + outN p ts := by
  unfold wonN inN outN
  induction ts with
  | nil => rfl
  | cons e r ih =>
    rw [List.countP_cons, List.countP_cons, List.countP_cons, ih]
    cases p e.1.toNat <;> cases p e.2.toNat <;> simp <;> lia
theorem countP_const {α : Type} {q : α → Bool} {b : Bool} {l : List α} (h : ∀ x ∈ l, q x = b) : l.countP q = if b then l.length else 0 := by
  cases b with
  | true => rw [if_pos rfl]; exact List.countP_eq_length.mpr h
  | false => rw [if_neg (by decide)]; exact List.countP_eq_zero.mpr fun x hx => by rw [h x hx]; decide
theorem LgR.count {row : List Int} (p : Nat → Bool) {wins : List Int} {left : List Nat} {ts : List (Int × Int)} (h : LgR row wins left ts) :
    LgI row wins left ∧ isum' wins (left.filter p) + (wonN p ts : Int) = isum' row ((List.range row.length).filter p) ∧ inN p ts + tri (left.filter p).length = tri ((List.range row.length).filter p).length := by
  refine LgR.plain (P := fun wins left ts => LgI row wins left ∧ isum' wins (left.filter p) + (wonN p ts : Int) = isum' row ((List.range row.length).filter p) ∧ inN p ts + tri (left.filter p).length = tri ((List.range row.length).filter p).length) ?_ ?_ h
  · refine ⟨LgI.start row, ?_, ?_⟩
    · show _ + (0 : Int) = _
      rw [Int.add_zero]
    · show 0 + _ = _
      rw [Nat.zero_add]
  · rintro wins left init F W ts ⟨hI, h1, h2⟩ hp hs hW hWl
    obtain ⟨hI', hn, hF, hFl, hb⟩ := hI.step (W := W) hp
    refine ⟨hI', ?_, ?_⟩
    · rw [← h1, ← isum'_perm (hp.filter p), List.filter_append, isum'_append]
      have h3 := isum'_decr (W := W) hn hb p
      have e1 : wonN p (ts ++ (init.take W).map (fun x => (cI F, cI x)) ++ (init.drop W).map (fun x => (cI x, cI F))) = wonN p ts + (if p F then W else 0) + ((init.drop W).filter p).length := by
        unfold wonN
        rw [List.countP_append, List.countP_append, List.countP_map, List.countP_map, List.countP_eq_length_filter (p := _ ∘ fun x => (cI x, cI F))]
        have e2 : (init.take W).countP ((fun e : Int × Int => p e.1.toNat) ∘ fun x => (cI F, cI x)) = if p F then W else 0 := by
          have h4 := countP_const (q := (fun e : Int × Int => p e.1.toNat) ∘ fun x => (cI F, cI x)) (b := p F) (l := init.take W) fun x _ => by simp
          rw [h4, List.length_take, Nat.min_eq_left hWl]
        have e3 : ((fun e : Int × Int => p e.1.toNat) ∘ fun x => (cI x, cI F)) = p := by funext x; simp
        rw [e2, e3]
      rw [e1]
      have e4 : isum' wins ([F].filter p) = if p F then (W : Int) else 0 := by
        unfold isum'
        cases h5 : p F with
        | true =>
          rw [List.filter_cons_of_pos h5, List.filter_nil, List.map_cons, List.map_nil, List.sum_cons, List.sum_nil, hW, Int.add_zero]; rfl
        | false => simp [h5]
      rw [e4]
      cases p F
      · simp only [Bool.false_eq_true, if_false]; lia
      · simp only [if_true]; lia
    · rw [← h2, ← (hp.filter p).length_eq, List.filter_append, List.length_append]
      have e1 : inN p (ts ++ (init.take W).map (fun x => (cI F, cI x)) ++ (init.drop W).map (fun x => (cI x, cI F))) = inN p ts + (if p F then (init.filter p).length else 0) := by
        unfold inN
        rw [List.countP_append, List.countP_append, List.countP_map, List.countP_map]
        cases h5 : p F with
        | true =>
          have e3 : ((fun e : Int × Int => p e.1.toNat && p e.2.toNat) ∘ fun x => (cI x, cI F)) = p := by funext x; simp [h5]
          have e2 : ((fun e : Int × Int => p e.1.toNat && p e.2.toNat) ∘ fun x => (cI F, cI x)) = p := by funext x; simp [h5]
          rw [e2, e3, if_pos rfl, Nat.add_assoc, ← List.countP_append, List.take_append_drop, ← List.countP_eq_length_filter (p := p) (l := init)]
        | false =>
          have e3 : ((fun e : Int × Int => p e.1.toNat && p e.2.toNat) ∘ fun x => (cI x, cI F)) = fun _ => false := by funext x; simp [h5]
          have e2 : ((fun e : Int × Int => p e.1.toNat && p e.2.toNat) ∘ fun x => (cI F, cI x)) = fun _ => false := by funext x; simp [h5]
          rw [e2, e3]
          simp
      rw [e1]
      cases h5 : p F with
      | true =>
        simp only [h5, if_true, List.filter_cons_of_pos, List.filter_nil, List.length_cons, List.length_nil]
        rw [tri_succ]; lia
      | false => simp [h5]
end Mine
end
section
open PySem PySem.W PyProof.Rows
namespace Mine
/-! Landau -/
noncomputable def landG : List Nat → Nat → Nat → Bool
  | [], sum, cnt => Nat.beq sum (tri cnt)
  | x :: r, sum, cnt => Nat.ble (tri (cnt + 1)) (sum + x) && landG r (sum + x) (cnt + 1)
noncomputable def insN (x : Nat) : List Nat → List Nat
  | [] => [x]
  | y :: r => if Nat.ble x y = true then x :: y :: r else y :: insN x r
noncomputable def isortN : List Nat → List Nat
  | [] => []
  | x :: r => insN x (isortN r)
theorem insN_perm (x : Nat) : ∀ l, (insN x l).Perm (x :: l)
  | [] => .refl _
  | y :: r => by
    unfold insN
    split
    · exact .refl _
    · exact ((insN_perm x r).cons y).trans (List.Perm.swap x y r)
theorem isortN_perm : ∀ l, (isortN l).Perm l
  | [] => .refl _
  | x :: r => (insN_perm x _).trans ((isortN_perm r).cons x)
theorem insN_sorted (x : Nat) : ∀ l : List Nat, l.Pairwise (· ≤ ·) → (insN x l).Pairwise (· ≤ ·)
  | [], _ => List.pairwise_singleton _ _
  | y :: r, h => by
    obtain ⟨h1, h2⟩ := List.pairwise_cons.mp h
    unfold insN
    split
    · rename_i hxy
      have hxy := Nat.le_of_ble_eq_true hxy
      refine List.pairwise_cons.mpr ⟨fun z hz => ?_, h⟩
      rcases List.mem_cons.mp hz with rfl | hz
      · exact hxy
      · exact Nat.le_trans hxy (h1 z hz)
    · rename_i hxy
      have hyx : y ≤ x := by
        rcases Nat.le_total x y with h3 | h3
        · exact absurd (Nat.ble_eq.mpr h3) hxy
        · exact h3
      refine List.pairwise_cons.mpr ⟨fun z hz => ?_, insN_sorted x r h2⟩
      rcases List.mem_cons.mp ((insN_perm x r).mem_iff.mp hz) with rfl | hz
      · exact hyx
      · exact h1 z hz
theorem isortN_sorted : ∀ l : List Nat, (isortN l).Pairwise (· ≤ ·)
  | [] => .nil
  | x :: r => insN_sorted x _ (isortN_sorted r)
noncomputable def nextN (i : List Nat) (W : Nat) : List Nat := i.take W ++ (i.drop W).map (· - 1)
noncomputable def stepOK (s : List Nat) : Bool := Nat.ble (s.getLastD 0) s.dropLast.length && ((s.dropLast.drop (s.getLastD 0)).all (Nat.ble 1) && landG (isortN (nextN s.dropLast (s.getLastD 0))) 0 0)
noncomputable def listsN : Nat → Nat → Nat → Nat → List (List Nat)
  | 0, _, sum, cnt => if Nat.beq sum (tri cnt) = true then [[]] else []
  | k + 1, lo, sum, cnt => (List.range (8 - lo)).flatMap fun d => if Nat.ble (tri (cnt + 1)) (sum + (lo + d)) = true then (listsN k (lo + d) (sum + (lo + d)) (cnt + 1)).map (fun r => (lo + d) :: r) else []
theorem listsN_mem : ∀ (s : List Nat) (lo sum cnt : Nat), (lo :: s).Pairwise (· ≤ ·) → (∀ x ∈ s, x ≤ 7) → landG s sum cnt = true → s ∈ listsN s.length lo sum cnt
  | [], lo, sum, cnt, _, _, h => by
    show [] ∈ if Nat.beq sum (tri cnt) = true then [[]] else []
    have h' : Nat.beq sum (tri cnt) = true := h
    rw [if_pos h']; exact List.mem_cons_self
  | x :: r, lo, sum, cnt, hs, hb, h => by
    obtain ⟨h1, h2⟩ := List.pairwise_cons.mp hs
    have hlo := h1 x List.mem_cons_self
    have hx := hb x List.mem_cons_self
    simp only [landG, Bool.and_eq_true] at h
    have ih := listsN_mem r x (sum + x) (cnt + 1) h2 (fun z hz => hb z (List.mem_cons_of_mem _ hz)) h.2
    refine List.mem_flatMap.mpr ⟨x - lo, List.mem_range.mpr (by lia), ?_⟩
    rw [show lo + (x - lo) = x by lia, if_pos h.1]
    exact List.mem_map.mpr ⟨r, ih, rfl⟩
theorem ok1 : (listsN 1 0 0 0).all stepOK = true := by decide +kernel
theorem ok2 : (listsN 2 0 0 0).all stepOK = true := by decide +kernel
theorem ok3 : (listsN 3 0 0 0).all stepOK = true := by decide +kernel
theorem ok4 : (listsN 4 0 0 0).all stepOK = true := by decide +kernel
theorem ok5 : (listsN 5 0 0 0).all stepOK = true := by decide +kernel
theorem ok6 : (listsN 6 0 0 0).all stepOK = true := by decide +kernel
theorem ok7 : (listsN 7 0 0 0).all stepOK = true := by decide +kernel
theorem ok8 : (listsN 8 0 0 0).all stepOK = true := by decide +kernel
theorem ok_all {s : List Nat} (h1 : 1 ≤ s.length) (h8 : s.length ≤ 8) (hs : s.Pairwise (· ≤ ·)) (hb : ∀ x ∈ s, x ≤ 7) (h : landG s 0 0 = true) : stepOK s = true := by
  have hm := listsN_mem s 0 0 0 (List.pairwise_cons.mpr ⟨fun _ _ => Nat.zero_le _, hs⟩) hb h
  have hl : s.length = 1 ∨ s.length = 2 ∨ s.length = 3 ∨ s.length = 4 ∨ s.length = 5 ∨ s.length = 6 ∨ s.length = 7 ∨ s.length = 8 := by lia
  rcases hl with e | e | e | e | e | e | e | e <;> rw [e] at hm
  · exact List.all_eq_true.mp ok1 s hm
  · exact List.all_eq_true.mp ok2 s hm
  · exact List.all_eq_true.mp ok3 s hm
  · exact List.all_eq_true.mp ok4 s hm
  · exact List.all_eq_true.mp ok5 s hm
  · exact List.all_eq_true.mp ok6 s hm
  · exact List.all_eq_true.mp ok7 s hm
  · exact List.all_eq_true.mp ok8 s hm
theorem landG_of : ∀ (l : List Nat) (sum cnt : Nat), (∀ j, j < l.length → tri (cnt + j + 1) ≤ sum + (l.take (j + 1)).sum) → sum + l.sum = tri (cnt + l.length) → landG l sum cnt = true
  | [], sum, cnt, _, h => by
    show Nat.beq sum (tri cnt) = true
    simpa using h
  | x :: r, sum, cnt, h, ht => by
    simp only [landG, Bool.and_eq_true, Nat.ble_eq]
    refine ⟨?_, landG_of r _ _ (fun j hj => ?_) ?_⟩
    · have := h 0 (by simp)
      simpa using this
    · have := h (j + 1) (by simp only [List.length_cons]; lia)
      rw [List.take_succ_cons, List.sum_cons] at this
      rw [show cnt + 1 + j + 1 = cnt + (j + 1) + 1 by lia]
      lia
    · rw [List.sum_cons, List.length_cons] at ht
      rw [show cnt + 1 + r.length = cnt + (r.length + 1) by lia]
      lia
end Mine
end
section
open PySem PySem.W PyProof.Rows
namespace Mine
/-! Landau: the building and the sums -/
theorem sorted_sameI {a b : List Int} (hp : a.Perm b) (ha : a.Pairwise (· ≤ ·)) (hb : b.Pairwise (· ≤ ·)) : a = b :=
  List.Perm.eq_of_pairwise (fun _ _ _ _ h1 h2 => Int.le_antisymm h1 h2) ha hb hp
noncomputable def GoodL (wins : List Int) (left : List Nat) : Prop :=
  ∃ s : List Nat, s.Pairwise (· ≤ ·) ∧ (∀ x ∈ s, x ≤ 7) ∧ landG s 0 0 = true ∧ (s.map cI).Perm (left.map fun x => wins.getD x 0)
theorem lex_le {a b c d : Int} (h : lexLt (a, b) (c, d) = true) : a ≤ c := by
  unfold lexLt at h
  simp only [Bool.or_eq_true, Bool.and_eq_true, decide_eq_true_eq] at h
  lia
theorem GoodL.vals {wins : List Int} {left left1 : List Nat} (H : GoodL wins left) (hp : left1.Perm left) (hs : LgSorted wins left1) :
    ∃ s : List Nat, s.Pairwise (· ≤ ·) ∧ (∀ x ∈ s, x ≤ 7) ∧ landG s 0 0 = true ∧ left1.map (fun x => wins.getD x 0) = s.map cI := by
  obtain ⟨s, h1, h2, h3, h4⟩ := H
  refine ⟨s, h1, h2, h3, sorted_sameI ((hp.map _).trans h4.symm) ?_ ?_⟩
  · rw [List.pairwise_map]
    exact hs.imp fun h => lex_le h
  · rw [List.pairwise_map]
    exact h1.imp fun h => Int.ofNat_le.mpr h
theorem GoodL.play {wins : List Int} {left init : List Nat} {F : Nat} (H : GoodL wins left) (hp : (init ++ [F]).Perm left) (hs : LgSorted wins (init ++ [F])) (h8 : left.length ≤ 8) :
    ∃ s' : List Nat, ∃ W : Nat, init.map (fun x => wins.getD x 0) = s'.map cI ∧ wins.getD F 0 = (W : Int) ∧ W ≤ init.length ∧ (∀ x ∈ s', x ≤ 7) ∧ (∀ x ∈ s'.drop W, 1 ≤ x) ∧ landG (isortN (nextN s' W)) 0 0 = true := by
  obtain ⟨s, h1, h2, h3, h4⟩ := H.vals hp hs
  have hl : s.length = init.length + 1 := by
    have := congrArg List.length h4
    simp only [List.length_map, List.length_append, List.length_cons, List.length_nil] at this
    lia
  have hll : left.length = init.length + 1 := by rw [← hp.length_eq, List.length_append]; rfl
  have hne : s ≠ [] := by intro e; rw [e] at hl; simp at hl
  obtain ⟨s', W, rfl⟩ : ∃ s' W, s = s' ++ [W] := ⟨s.dropLast, s.getLast hne, (List.dropLast_concat_getLast hne).symm⟩
  have hok := ok_all (by lia) (by lia) h1 h2 h3
  unfold stepOK at hok
  rw [List.dropLast_concat, List.getLastD_eq_getLast?, List.getLast?_concat, Option.getD_some] at hok
  simp only [Bool.and_eq_true, Nat.ble_eq, List.all_eq_true] at hok
  rw [List.map_append, List.map_append] at h4
  have h5 := List.append_inj' h4 rfl
  have hsl : s'.length = init.length := by
    rw [List.length_append] at hl
    simp only [List.length_cons, List.length_nil] at hl
    lia
  refine ⟨s', W, h5.1, ?_, by rw [← hsl]; exact hok.1, fun x hx => h2 x (List.mem_append_left _ hx), hok.2.1, hok.2.2⟩
  have := h5.2
  simp only [List.map_cons, List.map_nil, List.cons.injEq, and_true] at this
  exact this
theorem next_vals {wins : List Int} {init : List Nat} {s' : List Nat} {W : Nat} (hn : init.Nodup) (hb : ∀ x ∈ init, x < wins.length) (h : init.map (fun x => wins.getD x 0) = s'.map cI) (h1 : ∀ x ∈ s'.drop W, 1 ≤ x) :
    init.map (fun x => (decrI wins ((init.drop W).map cI)).getD x 0) = (nextN s' W).map cI := by
  have hd : ∀ x, (decrI wins ((init.drop W).map cI)).getD x 0 = wins.getD x 0 - (if x ∈ init.drop W then 1 else 0) := fun x =>
    decr_getD _ _ x (hn.sublist (List.drop_sublist _ _)) fun y hy => hb y (List.mem_of_mem_drop hy)
  have hsplit : init = init.take W ++ init.drop W := (List.take_append_drop W init).symm
  have hdis : ∀ x ∈ init.take W, x ∉ init.drop W := fun x hx hy => by
    rw [hsplit] at hn
    exact (List.nodup_append.mp hn).2.2 x hx x hy rfl
  have ht : (init.take W).map (fun x => wins.getD x 0) = (s'.take W).map cI := by rw [List.map_take, List.map_take, h]
  have hdr : (init.drop W).map (fun x => wins.getD x 0) = (s'.drop W).map cI := by rw [List.map_drop, List.map_drop, h]
  unfold nextN
  rw [List.map_append, ← ht, List.map_map]
  conv => lhs; arg 2; rw [hsplit]
  rw [List.map_append]
  congr 1
  · refine List.map_congr_left fun x hx => ?_
    rw [hd, if_neg (hdis x hx), Int.sub_zero]
  · have e : (init.drop W).map (fun x => (decrI wins ((init.drop W).map cI)).getD x 0) = ((init.drop W).map fun x => wins.getD x 0).map (· - 1) := by
      rw [List.map_map]
      refine List.map_congr_left fun x hx => ?_
      rw [hd, if_pos hx]; rfl
    rw [e, hdr, List.map_map]
    refine List.map_congr_left fun x hx => ?_
    have := h1 x hx
    show ((x : Int)) - 1 = ((x - 1 : Nat) : Int)
    lia
theorem LgR.good {row : List Int} (h8 : row.length ≤ 8) (h0 : GoodL row (List.range row.length)) {wins : List Int} {left : List Nat} {ts : List (Int × Int)} (h : LgR row wins left ts) :
    LgI row wins left ∧ left.length ≤ 8 ∧ GoodL wins left := by
  refine LgR.plain (P := fun wins left _ => LgI row wins left ∧ left.length ≤ 8 ∧ GoodL wins left) ⟨LgI.start row, by rw [List.length_range]; exact h8, h0⟩ ?_ h
  rintro wins left init F W ts ⟨hI, hl, hG⟩ hp hs hW hWl
  obtain ⟨hI', hn, hF, hFl, hb⟩ := hI.step (W := W) hp
  obtain ⟨s', W', e1, e2, e3, e4, e5, e6⟩ := hG.play hp hs hl
  have hWW : W' = W := by rw [hW] at e2; exact (Int.ofNat.inj e2).symm
  subst hWW
  have hll : left.length = init.length + 1 := by rw [← hp.length_eq, List.length_append]; rfl
  refine ⟨hI', by lia, isortN (nextN s' W'), isortN_sorted _, fun x hx => ?_, e6, ?_⟩
  · have hx' := (isortN_perm _).mem_iff.mp hx
    unfold nextN at hx'
    rcases List.mem_append.mp hx' with h1 | h1
    · exact e4 x (List.mem_of_mem_take h1)
    · obtain ⟨y, hy, rfl⟩ := List.mem_map.mp h1
      have := e4 y (List.mem_of_mem_drop hy)
      lia
  · rw [next_vals hn hb e1 e5]
    exact (isortN_perm _).map _
noncomputable def Enough (m : Nat) (rs : List Nat) : Prop := (∀ j, j < m → j * (j + 1) / 2 ≤ (rs.take (j + 1)).sum) ∧ rs.sum = m * (m - 1) / 2
theorem tri_need (j : Nat) : j * (j + 1) / 2 = tri (j + 1) := by unfold tri; rw [Nat.add_sub_cancel, Nat.mul_comm]
theorem row_self (row : List Int) : (List.range row.length).map (fun x => row.getD x 0) = row := by
  refine List.ext_getElem (by simp) fun i h1 h2 => ?_
  simp only [List.getElem_map, List.getElem_range, List.getD_eq_getElem?_getD, List.getElem?_eq_getElem h2, Option.getD_some]
theorem good_start {row rs : List Nat} {m : Nat} (hm : row.length = m) (h8 : m ≤ 8) (hb : ∀ x ∈ row, x < m) (hp : rs.Perm row) (hs : rs.Pairwise (· ≤ ·)) (hE : Enough m rs) : GoodL (row.map cI) (List.range (row.map cI).length) := by
  refine ⟨rs, hs, fun x hx => ?_, landG_of rs 0 0 (fun j hj => ?_) ?_, ?_⟩
  · have := hb x (hp.mem_iff.mp hx); lia
  · rw [hp.length_eq, hm] at hj
    have := hE.1 j hj
    rw [tri_need] at this
    rw [Nat.zero_add, Nat.zero_add]; exact this
  · rw [Nat.zero_add, Nat.zero_add, hE.2, hp.length_eq, hm]; rfl
  · rw [row_self]; exact hp.map _
theorem order_vals {row rs : List Nat} {o : List Nat} (hp : rs.Perm row) (hs : rs.Pairwise (· ≤ ·)) (ho : o.Perm (List.range row.length)) (hos : LgSorted (row.map cI) o) : o.map (fun x => (row.map cI).getD x 0) = rs.map cI := by
  refine sorted_sameI ?_ ?_ ?_
  · have h1 := ho.map fun x => (row.map cI).getD x 0
    have h2 := row_self (row.map cI)
    rw [List.length_map] at h2
    rw [h2] at h1
    exact h1.trans (hp.map cI).symm
  · rw [List.pairwise_map]
    exact hos.imp fun h => lex_le h
  · rw [List.pairwise_map]
    exact hs.imp fun h => Int.ofNat_le.mpr h
theorem sum_castI (l : List Nat) : (l.map cI).sum = ((l.sum : Nat) : Int) := by
  induction l with
  | nil => rfl
  | cons x r ih => rw [List.map_cons, List.sum_cons, List.sum_cons, ih]; show (x : Int) + _ = _; lia
theorem order_sum {row rs : List Nat} {o : List Nat} {wins : List Int} {ts : List (Int × Int)} (hp : rs.Perm row) (hs : rs.Pairwise (· ≤ ·)) (ho : o.Perm (List.range row.length)) (hos : LgSorted (row.map cI) o)
    (h : LgR (row.map cI) wins [] ts) {k : Nat} (hk : k ≤ row.length) : (rs.take k).sum = tri k + outN (fun x => decide (x ∈ o.take k)) ts := by
  obtain ⟨_, h1, h2⟩ := h.count fun x => decide (x ∈ o.take k)
  rw [List.length_map] at h1 h2
  have hnd : o.Nodup := ho.nodup_iff.mpr List.nodup_range
  have hP : ((List.range row.length).filter fun x => decide (x ∈ o.take k)).Perm (o.take k) := by
    refine (List.perm_ext_iff_of_nodup (List.nodup_range.sublist List.filter_sublist) (hnd.sublist (List.take_sublist _ _))).mpr fun x => ?_
    rw [List.mem_filter, decide_eq_true_eq]
    exact ⟨fun h => h.2, fun h => ⟨ho.mem_iff.mp (List.mem_of_mem_take h), h⟩⟩
  have hl : ((List.range row.length).filter fun x => decide (x ∈ o.take k)).length = k := by
    rw [hP.length_eq, List.length_take, ho.length_eq, List.length_range]; lia
  have hsum : isum' (row.map cI) ((List.range row.length).filter fun x => decide (x ∈ o.take k)) = (((rs.take k).sum : Nat) : Int) := by
    rw [isum'_perm hP]
    unfold isum'
    rw [List.map_take, order_vals hp hs ho hos, ← List.map_take, sum_castI]
  rw [hsum] at h1
  rw [hl] at h2
  have h3 := won_in_out (fun x => decide (x ∈ o.take k)) ts
  have e0 : isum' wins (([] : List Nat).filter fun x => decide (x ∈ o.take k)) = 0 := rfl
  have e1 : tri (([] : List Nat).filter fun x => decide (x ∈ o.take k)).length = 0 := by simp [tri]
  lia
theorem tri_pos {m : Nat} (h5 : 5 ≤ m) : 0 < tri m := by
  obtain ⟨n, rfl⟩ : ∃ n, m = n + 2 := ⟨m - 2, by lia⟩
  rw [tri_succ]; lia
theorem landau {m : Nat} {row rs : List Nat} {ts : List (Int × Int)} (hm : row.length = m) (h5 : 5 ≤ m) (h8 : m ≤ 8) (hb : ∀ x ∈ row, x < m) (hp : rs.Perm row) (hs : rs.Pairwise (· ≤ ·)) (h : LgDone (row.map cI) ts) :
    (ts ≠ [] ↔ Enough m rs) ∧ (ts ≠ [] → ∃ wins, LgR (row.map cI) wins [] ts) := by
  have h8' : (row.map cI).length ≤ 8 := by rw [List.length_map]; lia
  rcases h with ⟨wins, hR⟩ | ⟨rfl, wins, left, left1, ts0, FI, hR, hpl, hsl, hl0, hFI, hbad⟩
  · refine ⟨⟨fun _ => ?_, fun _ => ?_⟩, fun _ => ⟨wins, hR⟩⟩
    · obtain ⟨o, ho, hos⟩ : ∃ o : List Nat, o.Perm (List.range row.length) ∧ LgSorted (row.map cI) o := by
        obtain ⟨o, ho⟩ : ∃ o : List Nat, o = (List.range row.length).mergeSort (fun x y => lexLt ((row.map cI).getD x 0, (x : Int)) ((row.map cI).getD y 0, (y : Int)) || decide (x = y)) := ⟨_, rfl⟩
        have hP : o.Perm (List.range row.length) := ho ▸ List.mergeSort_perm _ _
        refine ⟨o, hP, ?_⟩
        have hnd : o.Nodup := hP.nodup_iff.mpr List.nodup_range
        have hS : o.Pairwise (fun x y => (lexLt ((row.map cI).getD x 0, (x : Int)) ((row.map cI).getD y 0, (y : Int)) || decide (x = y)) = true) := by
          rw [ho]
          refine List.pairwise_mergeSort ?_ ?_ _
          · intro a b c h1 h2
            by_cases hab : a = b
            · rw [hab]; exact h2
            by_cases hbc : b = c
            · rw [← hbc]; exact h1
            simp only [lexLt, Bool.or_eq_true, Bool.and_eq_true, decide_eq_true_eq] at h1 h2 ⊢
            lia
          · intro a b
            simp only [lexLt, Bool.or_eq_true, Bool.and_eq_true, decide_eq_true_eq]
            lia
        refine (List.Pairwise.and hS hnd).imp fun h => ?_
        have := h.1
        simp only [Bool.or_eq_true, decide_eq_true_eq] at this
        exact this.resolve_right h.2
      refine ⟨fun j hj => ?_, ?_⟩
      · rw [order_sum hp hs ho hos hR (show j + 1 ≤ row.length by lia), tri_need]
        exact Nat.le_add_right _ _
      · obtain ⟨_, h2, h3⟩ := hR.count fun _ => true
        rw [List.filter_eq_self.mpr fun _ _ => rfl, List.filter_eq_self.mpr fun _ _ => rfl] at h2 h3
        have e1 : wonN (fun _ => true) ts = ts.length := List.countP_eq_length.mpr fun _ _ => rfl
        have e2 : inN (fun _ => true) ts = ts.length := List.countP_eq_length.mpr fun _ _ => rfl
        have e3 : isum' (row.map cI) (List.range (row.map cI).length) = ((rs.sum : Nat) : Int) := by
          unfold isum'
          rw [row_self, ← sum_castI]
          exact sum_perm (hp.map cI).symm
        have e4 : isum' wins [] = 0 := rfl
        have e5 : tri ([] : List Nat).length = 0 := rfl
        rw [List.length_range, List.length_map, hm] at h3
        rw [e3] at h2
        show rs.sum = tri m
        lia
    · rintro rfl
      obtain ⟨_, _, h3⟩ := hR.count fun _ => true
      have := tri_pos h5
      rw [List.filter_eq_self.mpr fun _ _ => rfl, List.filter_eq_self.mpr fun _ _ => rfl, List.length_range, List.length_map, hm] at h3
      have e : inN (fun _ => true) [] = 0 := rfl
      have e2 : tri ([] : List Nat).length = 0 := rfl
      lia
  · refine ⟨⟨fun h => absurd rfl h, fun hE => ?_⟩, fun h => absurd rfl h⟩
    exfalso
    obtain ⟨hI, hl8, hG⟩ := hR.good h8' (good_start hm h8 hb hp hs hE)
    have hne : left1 ≠ [] := by intro e; rw [e] at hpl; rw [← hpl.length_eq] at hl0; simp at hl0
    obtain ⟨init, F, rfl⟩ : ∃ init F, left1 = init ++ [F] := ⟨left1.dropLast, left1.getLast hne, (List.dropLast_concat_getLast hne).symm⟩
    obtain ⟨s', W, _, e2, e3, _⟩ := hG.play hpl hsl hl8
    have eF : FI = (F : Int) := by
      rw [← hFI, List.map_append, List.map_cons, List.map_nil, List.getLastD_eq_getLast?, List.getLast?_concat]; rfl
    refine hbad ?_
    rw [eF, Int.toNat_natCast, e2, List.map_append, List.map_cons, List.map_nil, List.dropLast_concat, List.length_map]
    lia
end Mine
end
section
open PySem PySem.W PyProof.Rows
namespace Mine
/-! the numbers that the law of leagues builds -/
theorem many_of {vs : List Value} {ns : List Int} (_ : IntsAre vs ns) : ∃ mm : Nat, (5 : Int) + (2 + (ns.length : Int)).fmod 4 = (mm : Int) ∧ 5 ≤ mm ∧ mm ≤ 8 := by
  rw [fmod_pos (by decide)]
  exact ⟨(5 + (2 + (ns.length : Int)) % 4).toNat, by lia, by lia, by lia⟩
theorem drawn_of {ws : List Value} {ns : List Int} {mm : Nat} (h : IntsAre ws (ns.take ((mm : Nat) : Int).toNat)) (_ : mm ≤ 8) : ∃ dr : List Int, IntsAre ws dr ∧ dr.length ≤ mm := by
  refine ⟨_, h, ?_⟩
  rw [List.length_take, Int.toNat_natCast]; lia
end Mine
namespace Mine
theorem ints8 {t1 t2 t3 t4 t5 t6 t7 t8 : Tok} : IntsAre [.int 1 t1, .int 2 t2, .int 3 t3, .int 3 t4, .int 4 t5, .int 2 t6, .int 6 t7, .int 5 t8] [1, 2, 3, 3, 4, 2, 6, 5] :=
  .cons _ _ (.cons _ _ (.cons _ _ (.cons _ _ (.cons _ _ (.cons _ _ (.cons _ _ (.cons _ _ .nil)))))))
theorem fill_of {dv ev : List Value} {dr : List Int} {mm : Nat} (hd : IntsAre dv dr) (hl : dr.length ≤ mm) (h8 : mm ≤ 8)
    (he : IntsAre ev (([1, 2, 3, 3, 4, 2, 6, 5].drop ((dv.length : Nat) : Int).toNat).take (min ((mm : Nat) : Int).toNat ([1, 2, 3, 3, 4, 2, 6, 5] : List Int).length - ((dv.length : Nat) : Int).toNat))) :
    ∃ el : List Int, IntsAre ev el ∧ (dr ++ el).length = mm := by
  refine ⟨_, he, ?_⟩
  have h1 := hd.length
  simp only [List.length_append, List.length_take, List.length_drop, Int.toNat_natCast, List.length_cons, List.length_nil]
  lia
theorem wins_of {wv : List Value} {ls : List Int} {mm n : Nat} (hn : n = ls.length) (hl : ls.length = mm) (h5 : 5 ≤ mm) (h : IntsAre wv ((List.range n).map fun i => (ls.getD i 0).fmod (mm : Int))) :
    ∃ wn : List Int, IntsAre wv wn ∧ wn.length = mm ∧ ∀ x ∈ wn, 0 ≤ x ∧ x < (mm : Int) := by
  refine ⟨_, h, by rw [List.length_map, List.length_range]; lia, fun x hx => ?_⟩
  obtain ⟨i, _, rfl⟩ := List.mem_map.mp hx
  rw [fmod_pos (by lia)]
  exact ⟨Int.emod_nonneg _ (by lia), Int.emod_lt_of_pos _ (by lia)⟩
theorem games_of {mm : Nat} (h5 : 5 ≤ mm) : ((mm : Int) * ((mm : Int) - 1)).fdiv 2 = ((mm * (mm - 1) / 2 : Nat) : Int) := by
  rw [fdiv_pos (by decide), Int.natCast_ediv, Int.natCast_mul, Int.natCast_sub (by lia)]; rfl
theorem last_ok {wn : List Int} {mm : Nat} (hl : wn.length = mm) (h5 : 5 ≤ mm) (hb : ∀ x ∈ wn, 0 ≤ x ∧ x < (mm : Int)) :
    (wn.drop (wn.length - (-(-1 : Int)).toNat)).length = 1 ∧ 0 ≤ (wn.drop (wn.length - (-(-1 : Int)).toNat)).getD 0 0 ∧ (wn.drop (wn.length - (-(-1 : Int)).toNat)).getD 0 0 < (mm : Int) := by
  have e : (-(-1 : Int)).toNat = 1 := rfl
  rw [e]
  have h1 : (wn.drop (wn.length - 1)).length = 1 := by rw [List.length_drop]; lia
  refine ⟨h1, ?_⟩
  have h2 : (wn.drop (wn.length - 1)).getD 0 0 ∈ wn := by
    rw [List.getD_eq_getElem?_getD, List.getElem?_eq_getElem (by lia)]
    exact List.mem_of_mem_drop (List.getElem_mem _)
  exact hb _ h2
theorem row_of {av : List Value} {wn : List Int} {mm : Nat} {x : Int} {t : Tok} (h : IntsAre av (wn.take (wn.length - (-(-1 : Int)).toNat))) (hl : wn.length = mm) (h5 : 5 ≤ mm) (hb : ∀ x ∈ wn, 0 ≤ x ∧ x < (mm : Int)) (hx : 0 ≤ x ∧ x < (mm : Int)) :
    ∃ row : List Nat, IntsAre (av ++ [Value.int x t]) (row.map fun (n : Nat) => (n : Int)) ∧ row.length = mm ∧ ∀ n ∈ row, n < mm := by
  have e : (-(-1 : Int)).toNat = 1 := rfl
  rw [e] at h
  have h1 : IntsAre (av ++ [Value.int x t]) (wn.take (wn.length - 1) ++ [x]) := h.append (.cons _ _ .nil)
  have h2 : ∀ z ∈ wn.take (wn.length - 1) ++ [x], 0 ≤ z ∧ z < (mm : Int) := fun z hz => by
    rcases List.mem_append.mp hz with hz | hz
    · exact hb z (List.mem_of_mem_take hz)
    · rw [List.mem_singleton.mp hz]; exact hx
  have h3 : (wn.take (wn.length - 1) ++ [x]).length = mm := by simp only [List.length_append, List.length_take, List.length_cons, List.length_nil]; lia
  generalize wn.take (wn.length - 1) ++ [x] = ls at h1 h2 h3
  refine ⟨ls.map Int.toNat, ?_, by rw [List.length_map]; exact h3, fun n hn => ?_⟩
  · rw [List.map_map]
    have e2 : ls.map ((fun (n : Nat) => (n : Int)) ∘ Int.toNat) = ls := by
      refine (List.map_congr_left fun z hz => ?_).trans (List.map_id _)
      exact Int.toNat_of_nonneg (h2 z hz).1
    rw [e2]; exact h1
  · obtain ⟨z, hz, rfl⟩ := List.mem_map.mp hn
    have := h2 z hz
    lia
theorem wide_of (S : Int) : ∃ ww : Nat, 9 + (691 + S).fmod 1200 = (ww : Int) ∧ 9 ≤ ww ∧ ww ≤ 1208 := by
  rw [fmod_pos (by decide)]
  exact ⟨(9 + (691 + S) % 1200).toNat, by lia, by lia, by lia⟩
theorem room_of (mm ww : Nat) (S : Int) : ∃ rm : Nat, (mm : Int) * (ww : Int) + 8 + S.fmod 16 = (rm : Int) ∧ mm * ww + 8 ≤ rm ∧ rm ≤ mm * ww + 23 := by
  rw [fmod_pos (by decide), ← Int.natCast_mul]
  generalize mm * ww = z
  exact ⟨((z : Int) + 8 + S % 16).toNat, by lia, by lia, by lia⟩
theorem common_of {mm ww rm : Nat} (A : Int) (h8 : mm ≤ 8) (hw : ww ≤ 1208) (h5 : 5 ≤ mm) (h9 : 9 ≤ ww) (h1 : mm * ww + 8 ≤ rm) (h2 : rm ≤ mm * ww + 23) :
    ∃ cm : Int, (1 : Int) * 2 ^ ((rm : Nat) : Int).toNat - (1 + 2 * A.fmod 1000) = cm ∧ 2 ^ (mm * ww + 7) ≤ cm ∧ cm < 2 ^ 20000 := by
  refine ⟨_, rfl, ?_, ?_⟩
  · rw [Int.toNat_natCast, fmod_pos (by decide)]
    have e1 : (2 : Int) ^ (mm * ww + 8) ≤ 2 ^ rm := pow2_le h1
    have e2 : (2 : Int) ^ (mm * ww + 8) = 2 ^ (mm * ww + 7) * 2 := Int.pow_succ 2 _
    have e3 : (2 : Int) ^ 11 ≤ 2 ^ (mm * ww + 7) := pow2_le (by have := Nat.mul_le_mul h5 h9; lia)
    have e4 : (2 : Int) ^ 11 = 2048 := by decide
    lia
  · rw [Int.toNat_natCast, fmod_pos (by decide)]
    have e1 : (2 : Int) ^ rm ≤ 2 ^ 20000 := pow2_le (by have := Nat.mul_le_mul h8 hw; lia)
    lia
theorem sorted_nat {rsv : List Value} {rsI : List Int} {row : List Nat} (h : IntsAre rsv rsI) (hp : rsI.Perm (row.map fun (n : Nat) => (n : Int))) (ho : rsI.Pairwise (· ≤ ·)) :
    ∃ rs : List Nat, IntsAre rsv (rs.map fun (n : Nat) => (n : Int)) ∧ rs.Perm row ∧ rs.Pairwise (· ≤ ·) := by
  have h1 : ∀ z ∈ rsI, ∃ n : Nat, z = (n : Int) := fun z hz => by
    obtain ⟨n, _, rfl⟩ := List.mem_map.mp (hp.mem_iff.mp hz)
    exact ⟨n, rfl⟩
  have e : (rsI.map Int.toNat).map (fun (n : Nat) => (n : Int)) = rsI := by
    rw [List.map_map]
    refine (List.map_congr_left fun z hz => ?_).trans (List.map_id _)
    obtain ⟨n, rfl⟩ := h1 z hz
    simp
  refine ⟨rsI.map Int.toNat, by rw [e]; exact h, ?_, ?_⟩
  · have := hp.map Int.toNat
    rw [List.map_map] at this
    have e2 : row.map (Int.toNat ∘ fun (n : Nat) => (n : Int)) = row := by
      refine (List.map_congr_left fun z _ => ?_).trans (List.map_id _)
      simp
    rw [e2] at this
    exact this
  · rw [List.pairwise_map]
    refine ho.imp_of_mem fun {a b} ha hb hab => ?_
    obtain ⟨n, rfl⟩ := h1 a ha
    obtain ⟨k, rfl⟩ := h1 b hb
    simpa using hab
theorem rest_nil {h₀ h : Heap} {L c : Addr} {T : List (Addr × Obj)} {o : Obj} (_ : News h₀ L h T) (_ : (c, o) ∈ T) : ∀ p ∈ ([] : List (Addr × Obj)), p.1 ≠ c := List.forall_mem_nil _
theorem rest_l {h₀ h : Heap} {L c a : Addr} {T R : List (Addr × Obj)} {o : Obj} {xs : Array Value} {k : Nat} {v : Option Value} (N : News h₀ L h T) (hc : (c, o) ∈ T) (hd : o.data = .cell v) (h1 : (a, listOf xs k) ∈ T) (r : ∀ p ∈ R, p.1 ≠ c) : ∀ p ∈ (a, listOf xs k) :: R, p.1 ≠ c :=
  List.forall_mem_cons.mpr ⟨apart_cell N h1 hc hd, r⟩
theorem rest_c {h₀ h : Heap} {L c a : Addr} {T R : List (Addr × Obj)} {o : Obj} (_ : News h₀ L h T) (_ : (a, o) ∈ T) (h1 : (a : Nat) ≠ c) (r : ∀ p ∈ R, p.1 ≠ c) : ∀ p ∈ (a, o) :: R, p.1 ≠ c := List.forall_mem_cons.mpr ⟨h1, r⟩
/-! the loop -/
structure WS where
  c : Obj
  w : Int
  tw : Tok
  l : Int
  tl : Tok
  s : Int
  ts : Tok
  n : Int
  tn : Tok
structure WP (ww : Nat) (row rs : List Nat) (i : Nat) (c : WS) : Prop where
  d : ∃ v, c.c.data = .cell v
  w : c.w = ((wordN (2 ^ ww) (row.take i) : Nat) : Int)
  l : c.l = ((wordN (2 ^ ww) (rs.take i) : Nat) : Int)
  s : c.s = ((WN ww i (fun j => (rs.take (j + 1)).sum) : Nat) : Int)
  n : c.n = ((WN ww i (fun j => j * (j + 1) / 2) : Nat) : Int)
theorem getD_cast {l : List Nat} {i : Nat} (hi : i < l.length) : (l.map fun (n : Nat) => (n : Int)).getD ((0 : Int) + (i : Int)).toNat 0 = ((l.getD i 0 : Nat) : Int) := by
  rw [tn_zero]; simp [List.getD_eq_getElem?_getD, hi]
theorem step_w {ww i : Nat} {l : List Nat} {x : Int} (hi : i < l.length) (h : x = ((wordN (2 ^ ww) (l.take i) : Nat) : Int)) :
    x * 2 ^ ((ww : Nat) : Int).toNat + (l.map fun (n : Nat) => (n : Int)).getD ((0 : Int) + (i : Int)).toNat 0 = ((wordN (2 ^ ww) (l.take (i + 1)) : Nat) : Int) := by
  rw [getD_cast hi, h, take_snoc l 0 hi, wordN_snoc, Int.toNat_natCast, mul_pow_nat]; lia
theorem step_s {ww i : Nat} {rs : List Nat} {x : Int} (h : x = ((WN ww i (fun j => (rs.take (j + 1)).sum) : Nat) : Int)) :
    x * 2 ^ ((ww : Nat) : Int).toNat + ((rs.map fun (n : Nat) => (n : Int)).take (((0 : Int) + (i : Int)) + 1).toNat).sum = ((WN ww (i + 1) (fun j => (rs.take (j + 1)).sum) : Nat) : Int) := by
  have e : (((0 : Int) + (i : Int)) + 1).toNat = i + 1 := by lia
  rw [e, h, WN_succ, Int.toNat_natCast, mul_pow_nat, ← List.map_take]
  have := sum_castI (rs.take (i + 1))
  unfold cI at this
  rw [this]; lia
theorem step_n {ww i : Nat} {x : Int} (h : x = ((WN ww i (fun j => j * (j + 1) / 2) : Nat) : Int)) :
    x * 2 ^ ((ww : Nat) : Int).toNat + (((0 : Int) + (i : Int)) * (((0 : Int) + (i : Int)) + 1)).fdiv 2 = ((WN ww (i + 1) (fun j => j * (j + 1) / 2) : Nat) : Int) := by
  rw [h, WN_succ, Int.toNat_natCast, mul_pow_nat, fdiv_pos (by decide), Int.zero_add]
  have e : ((i : Int) * ((i : Int) + 1)) / 2 = ((i * (i + 1) / 2 : Nat) : Int) := by rw [Int.natCast_ediv, Int.natCast_mul]; rfl
  rw [e]; lia
theorem wp0 {ww : Nat} {row rs : List Nat} {c : Obj} {t1 t2 t3 t4 : Tok} {v : Option Value} (h : c.data = .cell v) : WP ww row rs 0 ⟨c, 0, t1, 0, t2, 0, t3, 0, t4⟩ :=
  ⟨⟨v, h⟩, rfl, rfl, rfl, rfl⟩
end Mine
end
section
open PySem PySem.W PyProof.Rows
namespace Mine
/-! the numbers of the law's own body -/
theorem list_sum_le {m : Nat} : ∀ l : List Nat, (∀ x ∈ l, x < m) → l.sum ≤ l.length * m
  | [], _ => Nat.zero_le _
  | x :: r, h => by
    have h1 := list_sum_le r fun z hz => h z (List.mem_cons_of_mem _ hz)
    have h2 := h x List.mem_cons_self
    rw [List.sum_cons, List.length_cons, Nat.succ_mul]; lia
theorem sum_lt {m : Nat} {l : List Nat} (h8 : m ≤ 8) (hl : l.length ≤ m) (hb : ∀ x ∈ l, x < m) : l.sum < 200 := by
  have h1 := list_sum_le l hb
  have h2 : l.length * m ≤ 8 * 8 := Nat.mul_le_mul (by lia) h8
  lia
theorem word_lt {ww m : Nat} {l : List Nat} (hw : 9 ≤ ww) (h8 : m ≤ 8) (hb : ∀ x ∈ l, x < m) : wordN (2 ^ ww) l < 2 ^ (l.length * ww) := by
  have h : 2 ^ 9 ≤ 2 ^ ww := Nat.pow_le_pow_right (by decide) hw
  rw [word_WN]
  refine WN_lt _ fun j hj => ?_
  have := hb _ (getD_mem' hj)
  lia
theorem WP.fin {ww n : Nat} {row rs : List Nat} {c : WS} (H : WP ww row rs n c) (hn : row.length = n) (hs : rs.length = n) :
    (∃ v, c.c.data = .cell v) ∧ c.w = ((wordN (2 ^ ww) row : Nat) : Int) ∧ c.l = ((wordN (2 ^ ww) rs : Nat) : Int) ∧ c.s = ((WN ww n (fun j => (rs.take (j + 1)).sum) : Nat) : Int) ∧ c.n = ((WN ww n (fun j => j * (j + 1) / 2) : Nat) : Int) := by
  refine ⟨H.d, ?_, ?_, H.s, H.n⟩
  · rw [H.w, List.take_of_length_le (by lia)]
  · rw [H.l, List.take_of_length_le (by lia)]
theorem div_sums {ww mm : Nat} {rs : List Nat} {cm : Int} (hw9 : 9 ≤ ww) (hwL : ww ≤ 1208) (hl : rs.length = mm) (h8 : mm ≤ 8) (hb : ∀ x ∈ rs, x < mm) (h1 : Ob (2 ^ (mm * ww + 7) ≤ cm)) (h2 : Ob (cm < 2 ^ 20000)) :
    DivPre (((wordN (2 ^ ww) rs : Nat) : Int) * 2 ^ ((ww : Nat) : Int).toNat) (1 * 2 ^ ((ww : Nat) : Int).toNat - 1) cm ∧
    (((wordN (2 ^ ww) rs : Nat) : Int) * 2 ^ ((ww : Nat) : Int).toNat) / (1 * 2 ^ ((ww : Nat) : Int).toNat - 1) = ((WN ww mm (fun j => (rs.take (j + 1)).sum) : Nat) : Int) ∧
    (((wordN (2 ^ ww) rs : Nat) : Int) * 2 ^ ((ww : Nat) : Int).toNat) % (1 * 2 ^ ((ww : Nat) : Int).toNat - 1) = ((rs.sum : Nat) : Int) := by
  have h1' : (2 : Int) ^ (mm * ww + 7) ≤ cm := h1
  have hbt : (1 : Int) * 2 ^ ((ww : Nat) : Int).toNat - 1 = ((2 ^ ww - 1 : Nat) : Int) := ev_bot
  have htp : ((wordN (2 ^ ww) rs : Nat) : Int) * 2 ^ ((ww : Nat) : Int).toNat = ((wordN (2 ^ ww) rs * 2 ^ ww : Nat) : Int) := by rw [Int.toNat_natCast, mul_pow_nat]
  have hs := sum_lt h8 (Nat.le_of_eq hl) hb
  obtain ⟨e1, e2⟩ := sums_div hw9 (xs := rs) (by lia)
  rw [hl] at e1
  rw [hbt, htp, ← Int.natCast_ediv, ← Int.natCast_emod, e1, e2]
  refine ⟨?_, rfl, rfl⟩
  have h512 : 2 ^ 9 ≤ 2 ^ ww := Nat.pow_le_pow_right (by decide) hw9
  have hwd := word_lt hw9 h8 hb
  rw [hl] at hwd
  have hp := Nat.two_pow_pos (mm * ww)
  have hc0 : 0 < cm := Int.lt_of_lt_of_le (pow2_pos _) h1'
  have hww : (2 : Nat) ^ ww < 2 ^ 4300 := Nat.pow_lt_pow_right (by decide) (by lia)
  refine ⟨Int.natCast_nonneg _, by lia, hc0, ?_, ?_, h2⟩
  · have q1 : wordN (2 ^ ww) rs * 2 ^ ww < 2 ^ (mm * ww) * 2 ^ ww := Nat.mul_lt_mul_of_pos_right hwd (Nat.two_pow_pos ww)
    have q2 : 2 ^ (mm * ww) * 2 ^ ww ≤ 2 ^ (mm * ww + 7) * (2 ^ ww - 1) := by
      rw [Nat.pow_add, Nat.mul_assoc]
      exact Nat.mul_le_mul_left _ (by lia)
    have q3 : ((2 ^ (mm * ww + 7) * (2 ^ ww - 1) : Nat) : Int) ≤ cm * ((2 ^ ww - 1 : Nat) : Int) := by
      rw [Int.natCast_mul, cast_pow2]
      exact Int.mul_le_mul_of_nonneg_right h1' (Int.natCast_nonneg _)
    lia
  · have e : (2 : Int) ^ 4300 = ((2 ^ 4300 : Nat) : Int) := (cast_pow2 4300).symm
    rw [e]
    exact Int.ofNat_lt.mpr (Nat.lt_of_le_of_lt (Nat.sub_le _ _) hww)
theorem in_pre {ww mm W : Nat} {cm : Int} (hw9 : 9 ≤ ww) (hwL : ww ≤ 1208) (h5 : 5 ≤ mm) (h8 : mm ≤ 8) (h1 : Ob (2 ^ (mm * ww + 7) ≤ cm)) (h2 : Ob (cm < 2 ^ 20000)) : InPre mm ww W cm :=
  ⟨h5, h8, hw9, hwL, Int.le_trans (pow2_le (Nat.le_add_right _ _)) h1, h2⟩
theorem ev_pre {ww mm : Nat} {cm : Int} (hw9 : 9 ≤ ww) (hwL : ww ≤ 1208) (h8 : mm ≤ 8) (h1 : Ob (2 ^ (mm * ww + 7) ≤ cm)) (h2 : Ob (cm < 2 ^ 20000)) : EvPre mm ww cm :=
  ⟨by lia, by lia, h8, Int.le_trans (pow2_le (Nat.le_add_right _ _)) h1, h2⟩
theorem slots_law {ww mm : Nat} {rs : List Nat} (hw9 : 9 ≤ ww) (hl : rs.length = mm) (h8 : mm ≤ 8) (hb : ∀ x ∈ rs, x < mm) : Slots ww mm (fun j => (rs.take (j + 1)).sum) (fun j => j * (j + 1) / 2) := by
  refine ⟨hw9, fun j hj => ?_, fun j hj => ?_⟩
  · exact sum_lt h8 (by rw [List.length_take]; lia) fun x hx => hb x (List.mem_of_mem_take hx)
  · have : j * (j + 1) ≤ 7 * 8 := Nat.mul_le_mul (by lia) (by lia)
    lia
theorem marks_cast {ww mm : Nat} (hw9 : 9 ≤ ww) : ((everyN mm ww : Nat) : Int) * 2 ^ ((ww : Int) - 1).toNat = ((marksN mm ww : Nat) : Int) := by
  have e : ((ww : Int) - 1).toNat = ww - 1 := by lia
  rw [e, mul_pow_nat]; rfl
theorem above_cast {ww mm : Nat} {s n : Nat → Nat} (H : Slots ww mm s n) : ((WN ww mm s : Nat) : Int) + ((marksN mm ww : Nat) : Int) - ((WN ww mm n : Nat) : Int) = ((aboveN mm ww s n : Nat) : Int) := by
  have := H.need_le
  rw [← H.above]; lia
theorem tight_cast {ww mm : Nat} {s n : Nat → Nat} (H : Slots ww mm s n) :
    Builtin.bitXor (Builtin.bitAnd (((aboveN mm ww s n : Nat) : Int) - ((everyN mm ww : Nat) : Int)) ((marksN mm ww : Nat) : Int)) ((marksN mm ww : Nat) : Int) = ((tightN mm ww s n : Nat) : Int) := by
  have := H.ones_le
  have e : ((aboveN mm ww s n : Nat) : Int) - ((everyN mm ww : Nat) : Int) = ((aboveN mm ww s n - everyN mm ww : Nat) : Int) := by lia
  rw [e, band_nat, bxor_nat]; rfl
theorem ex_bool (P : Prop) : ∃ b : Bool, b = true ↔ P := by
  by_cases h : P
  · exact ⟨true, by simp [h]⟩
  · exact ⟨false, by simp [h]⟩
theorem tight_bit {ww mm i : Nat} {s n : Nat → Nat} (H : Slots ww mm s n) (hi : i < mm) :
    (Builtin.bitAnd (((tightN mm ww s n : Nat) : Int).fdiv (2 ^ (((mm : Int) - ((1 : Int) + (i : Int)) + 1) * (ww : Int) - 1).toNat)) 1 = 1) ↔ s i ≤ n i := by
  have hw := H.w9
  have e : (((mm : Int) - ((1 : Int) + (i : Int)) + 1) * (ww : Int) - 1).toNat = (mm - 1 - i) * ww + (ww - 1) := by
    have e1 : (mm : Int) - ((1 : Int) + (i : Int)) + 1 = ((mm - i : Nat) : Int) := by lia
    have e2 : mm - i = (mm - 1 - i) + 1 := by lia
    rw [e1, ← Int.natCast_mul, e2, Nat.succ_mul]
    lia
  rw [e, bit_ask, H.bit hi]
  by_cases h : s i ≤ n i
  · simp [h]
  · simp [h]
end Mine
end
section
open PySem PySem.W PyProof.Rows
namespace Mine
/-! contracts with the numbers as the law holds them -/
theorem d_sums (ww mm : Nat) (rs row : List Nat) (hw9 : 9 ≤ ww) (hwL : ww ≤ 1208) (hl : row.length = mm) (h8 : mm ≤ 8) (hb0 : ∀ x ∈ row, x < mm) (hp : rs.Perm row)
   (w : World) (mean : ExcName → Option Value) (mg mb : Str → Option Value) (news : List (Addr × Obj)) (cm : Int) (t u v : Tok) (h1 : Ob (2 ^ (mm * ww + 7) ≤ cm)) (h2 : Ob (cm < 2 ^ 20000)) :
   Cl w mean mg mb 70 11 news [.int (((wordN (2 ^ ww) rs : Nat) : Int) * 2 ^ ((ww : Nat) : Int).toNat) t, .int (1 * 2 ^ ((ww : Nat) : Int).toNat - 1) u, .int cm v]
     (RetT news ((WN ww mm (fun j => (rs.take (j + 1)).sum) : Nat) : Int) ((row.map fun (n : Nat) => (n : Int)).sum)) := by
  have hb : ∀ x ∈ rs, x < mm := fun x hx => hb0 x (hp.mem_iff.mp hx)
  obtain ⟨hd, e1, e2⟩ := div_sums hw9 hwL (hp.length_eq.trans hl) h8 hb h1 h2
  have h := c_divide w mean mg mb news _ _ cm t u v hd
  have e3 : ((rs.sum : Nat) : Int) = (row.map fun (n : Nat) => (n : Int)).sum := by rw [← sum_castI]; exact sum_perm (hp.map cI)
  rw [e1, e2, e3] at h
  exact h
theorem d_order (mm ww : Nat) (row rs : List Nat) (h5 : 5 ≤ mm) (h8 : mm ≤ 8) (hw9 : 9 ≤ ww) (hwL : ww ≤ 1208) (hl : row.length = mm) (hb : ∀ x ∈ row, x < mm) (hp : rs.Perm row) (hs : rs.Pairwise (· ≤ ·))
   (w : World) (mean : ExcName → Option Value) (mg mb : Str → Option Value) (news : List (Addr × Obj)) (cm : Int) (t0 t1 t2 t3 : Tok) (h1 : Ob (2 ^ (mm * ww + 7) ≤ cm)) (h2 : Ob (cm < 2 ^ 20000)) :
   Cl w mean mg mb 84 13 news [.int ((wordN (2 ^ ww) row : Nat) : Int) t0, .int mm t1, .int ww t2, .int cm t3] (RetI news ((wordN (2 ^ ww) rs : Nat) : Int)) := by
  have h := c_in_order w mean mg mb news mm ww (wordN (2 ^ ww) row) cm t0 t1 t2 t3 (in_pre hw9 hwL h5 h8 h1 h2)
  rw [run_sorted h5 h8 hw9 hl hb hp hs] at h
  exact h
theorem d_ones (mm ww : Nat) (h8 : mm ≤ 8) (hw9 : 9 ≤ ww) (hwL : ww ≤ 1208)
   (w : World) (mean : ExcName → Option Value) (mg mb : Str → Option Value) (news : List (Addr × Obj)) (cm : Int) (t0 t1 t3 : Tok) (h1 : Ob (2 ^ (mm * ww + 7) ≤ cm)) (h2 : Ob (cm < 2 ^ 20000)) :
   Cl w mean mg mb 77 12 news [.int mm t0, .int ww t1, .int cm t3] (RetI news (everyN mm ww : Nat)) :=
  c_every w mean mg mb news mm ww cm t0 t1 t3 (ev_pre hw9 hwL h8 h1 h2)
theorem d_league (row : List Nat) (h8 : row.length ≤ 8) (w : World) (mean : ExcName → Option Value) (mg mb : Str → Option Value) (news : List (Addr × Obj)) (lr : Addr) (rv : List Value) (rk : Nat)
   (hlr : (lr, listOf rv.toArray rk) ∈ news) (hri : IntsAre rv (row.map fun (n : Nat) => (n : Int))) :
   Cl w mean mg mb 89 12 news [.ref lr] (RetB (row.map cI) news) :=
  c_league w mean mg mb news lr rv rk _ hlr hri (by rw [List.length_map]; exact h8)
theorem en_ask {ww mm : Nat} {s n : Nat → Nat} (H : Slots ww mm s n) : (Builtin.bitAnd ((aboveN mm ww s n : Nat) : Int) ((marksN mm ww : Nat) : Int) = ((marksN mm ww : Nat) : Int)) ↔ ∀ j, j < mm → n j ≤ s j := by
  rw [band_nat]
  exact Int.ofNat_inj.trans H.enough
theorem en_no {ww mm : Nat} {rs : List Nat} {eb : Bool} (H : Slots ww mm (fun j => (rs.take (j + 1)).sum) (fun j => j * (j + 1) / 2)) (heb : eb = true ↔ Enough mm rs)
    (h : Builtin.bitAnd ((aboveN mm ww (fun j => (rs.take (j + 1)).sum) (fun j => j * (j + 1) / 2) : Nat) : Int) ((marksN mm ww : Nat) : Int) ≠ ((marksN mm ww : Nat) : Int)) :
    (Builtin.bitAnd ((aboveN mm ww (fun j => (rs.take (j + 1)).sum) (fun j => j * (j + 1) / 2) : Nat) : Int) ((marksN mm ww : Nat) : Int) == ((marksN mm ww : Nat) : Int)) = eb := by
  cases eb with
  | false => exact beq_eq_false_iff_ne.mpr h
  | true => exact absurd ((en_ask H).mpr (heb.mp rfl).1) h
theorem en_yes {ww mm : Nat} {rs row : List Nat} {eb : Bool} (H : Slots ww mm (fun j => (rs.take (j + 1)).sum) (fun j => j * (j + 1) / 2)) (heb : eb = true ↔ Enough mm rs) (hp : rs.Perm row)
    (h : Builtin.bitAnd ((aboveN mm ww (fun j => (rs.take (j + 1)).sum) (fun j => j * (j + 1) / 2) : Nat) : Int) ((marksN mm ww : Nat) : Int) = ((marksN mm ww : Nat) : Int)) :
    ((row.map fun (n : Nat) => (n : Int)).sum == ((mm * (mm - 1) / 2 : Nat) : Int)) = eb := by
  have e3 : (row.map fun (n : Nat) => (n : Int)).sum = ((rs.sum : Nat) : Int) := by rw [← sum_castI]; exact (sum_perm (hp.map cI)).symm
  rw [e3]
  cases eb with
  | true => exact beq_iff_eq.mpr (congrArg _ (heb.mp rfl).2)
  | false =>
    refine beq_eq_false_iff_ne.mpr fun e => ?_
    have := heb.mpr ⟨(en_ask H).mp h, Int.ofNat.inj e⟩
    cases this
theorem lg_says {mm : Nat} {row rs : List Nat} {tl : List TT} {eb : Bool} (hm : row.length = mm) (h5 : 5 ≤ mm) (h8 : mm ≤ 8) (hb : ∀ x ∈ row, x < mm) (hp : rs.Perm row) (hs : rs.Pairwise (· ≤ ·)) (h : LgDone (row.map cI) (tl.map TT.v)) (heb : eb = true ↔ Enough mm rs) :
    (!decide (tl = [])) = eb := by
  have h1 := (landau hm h5 h8 hb hp hs h).1
  cases tl with
  | nil =>
    cases eb with
    | false => rfl
    | true => exact absurd rfl (h1.mpr (heb.mp rfl))
  | cons y r =>
    have := heb.mpr (h1.mp (by simp))
    rw [this]; rfl
theorem nb_pick {h₀ h : Heap} {L : Addr} {b x0 x1 x2 x3 x4 x5 : Addr × Obj} {T : List (Addr × Obj)} (N : News h₀ L h (b :: (T ++ [x0, x1, x2, x3, x4, x5]))) :
    News h₀ L h (b :: x1 :: x2 :: x3 :: x4 :: x5 :: T) := fun p hp => N p (by
  have up : ∀ q ∈ [x0, x1, x2, x3, x4, x5], q ∈ b :: (T ++ [x0, x1, x2, x3, x4, x5]) := fun q hq => List.mem_cons_of_mem _ (List.mem_append_right _ hq)
  rcases List.mem_cons.mp hp with rfl | hp
  · exact List.mem_cons_self
  rcases List.mem_cons.mp hp with rfl | hp
  · exact up _ (List.mem_cons_of_mem _ List.mem_cons_self)
  rcases List.mem_cons.mp hp with rfl | hp
  · exact up _ (List.mem_cons_of_mem _ (List.mem_cons_of_mem _ List.mem_cons_self))
  rcases List.mem_cons.mp hp with rfl | hp
  · exact up _ (List.mem_cons_of_mem _ (List.mem_cons_of_mem _ (List.mem_cons_of_mem _ List.mem_cons_self)))
  rcases List.mem_cons.mp hp with rfl | hp
  · exact up _ (List.mem_cons_of_mem _ (List.mem_cons_of_mem _ (List.mem_cons_of_mem _ (List.mem_cons_of_mem _ List.mem_cons_self))))
  rcases List.mem_cons.mp hp with rfl | hp
  · exact up _ (List.mem_cons_of_mem _ (List.mem_cons_of_mem _ (List.mem_cons_of_mem _ (List.mem_cons_of_mem _ (List.mem_cons_of_mem _ List.mem_cons_self)))))
  exact List.mem_cons_of_mem _ (List.mem_append_left _ hp))
theorem nb_pick0 {h₀ h : Heap} {L : Addr} {x0 x1 x2 x3 x4 x5 x6 x7 x8 x9 x10 x11 x12 x13 : Addr × Obj} (N : News h₀ L h [x0, x1, x2, x3, x4, x5, x6, x7, x8, x9, x10, x11, x12, x13]) :
    News h₀ L h [x0, x1, x10, x11, x12, x13] := fun p hp => N p (by
  rcases List.mem_cons.mp hp with rfl | hp
  · exact List.mem_cons_self
  rcases List.mem_cons.mp hp with rfl | hp
  · exact (List.mem_cons_of_mem _ List.mem_cons_self)
  rcases List.mem_cons.mp hp with rfl | hp
  · exact (List.mem_cons_of_mem _ (List.mem_cons_of_mem _ (List.mem_cons_of_mem _ (List.mem_cons_of_mem _ (List.mem_cons_of_mem _ (List.mem_cons_of_mem _ (List.mem_cons_of_mem _ (List.mem_cons_of_mem _ (List.mem_cons_of_mem _ (List.mem_cons_of_mem _ List.mem_cons_self))))))))))
  rcases List.mem_cons.mp hp with rfl | hp
  · exact (List.mem_cons_of_mem _ (List.mem_cons_of_mem _ (List.mem_cons_of_mem _ (List.mem_cons_of_mem _ (List.mem_cons_of_mem _ (List.mem_cons_of_mem _ (List.mem_cons_of_mem _ (List.mem_cons_of_mem _ (List.mem_cons_of_mem _ (List.mem_cons_of_mem _ (List.mem_cons_of_mem _ List.mem_cons_self)))))))))))
  rcases List.mem_cons.mp hp with rfl | hp
  · exact (List.mem_cons_of_mem _ (List.mem_cons_of_mem _ (List.mem_cons_of_mem _ (List.mem_cons_of_mem _ (List.mem_cons_of_mem _ (List.mem_cons_of_mem _ (List.mem_cons_of_mem _ (List.mem_cons_of_mem _ (List.mem_cons_of_mem _ (List.mem_cons_of_mem _ (List.mem_cons_of_mem _ (List.mem_cons_of_mem _ List.mem_cons_self))))))))))))
  rcases List.mem_cons.mp hp with rfl | hp
  · exact (List.mem_cons_of_mem _ (List.mem_cons_of_mem _ (List.mem_cons_of_mem _ (List.mem_cons_of_mem _ (List.mem_cons_of_mem _ (List.mem_cons_of_mem _ (List.mem_cons_of_mem _ (List.mem_cons_of_mem _ (List.mem_cons_of_mem _ (List.mem_cons_of_mem _ (List.mem_cons_of_mem _ (List.mem_cons_of_mem _ (List.mem_cons_of_mem _ List.mem_cons_self)))))))))))))
  cases hp)
theorem nb_pick1 {h₀ h : Heap} {L : Addr} {x0 x1 x2 x3 x4 x5 : Addr × Obj} (N : News h₀ L h [x0, x1, x2, x3, x4, x5]) :
    News h₀ L h [x0, x2, x3, x4, x5] := fun p hp => N p (by
  rcases List.mem_cons.mp hp with rfl | hp
  · exact List.mem_cons_self
  rcases List.mem_cons.mp hp with rfl | hp
  · exact (List.mem_cons_of_mem _ (List.mem_cons_of_mem _ List.mem_cons_self))
  rcases List.mem_cons.mp hp with rfl | hp
  · exact (List.mem_cons_of_mem _ (List.mem_cons_of_mem _ (List.mem_cons_of_mem _ List.mem_cons_self)))
  rcases List.mem_cons.mp hp with rfl | hp
  · exact (List.mem_cons_of_mem _ (List.mem_cons_of_mem _ (List.mem_cons_of_mem _ (List.mem_cons_of_mem _ List.mem_cons_self))))
  rcases List.mem_cons.mp hp with rfl | hp
  · exact (List.mem_cons_of_mem _ (List.mem_cons_of_mem _ (List.mem_cons_of_mem _ (List.mem_cons_of_mem _ (List.mem_cons_of_mem _ List.mem_cons_self)))))
  cases hp)
theorem fr_two {h₀ h : Heap} {L : Addr} {m : Str → Option Value} (x1 x2 : Str) {v1 v2 : Value} (F : Fr h₀ L h m) (h1 : m x1 = some v1) (h2 : m x2 = some v2) :
    ∃ u : Str → Option Value, Fr h₀ L h (fun y => if y = x1 then some v1 else if y = x2 then some v2 else u y) := by
  have e : (fun y => if y = x1 then some v1 else if y = x2 then some v2 else m y) = m := by
    funext y
    by_cases hy : y = x1
    · rw [if_pos hy, hy, h1]
    rw [if_neg hy]
    by_cases hy : y = x2
    · rw [if_pos hy, hy, h2]
    · rw [if_neg hy]
  exact ⟨m, by rw [e]; exact F⟩
theorem fr_eight {h₀ h : Heap} {L : Addr} {m : Str → Option Value} (x1 x2 x3 x4 x5 x6 x7 x8 : Str) {v1 v2 v3 v4 v5 v6 v7 v8 : Value} (F : Fr h₀ L h m) (h1 : m x1 = some v1) (h2 : m x2 = some v2) (h3 : m x3 = some v3) (h4 : m x4 = some v4) (h5 : m x5 = some v5) (h6 : m x6 = some v6) (h7 : m x7 = some v7) (h8 : m x8 = some v8) :
    ∃ u : Str → Option Value, Fr h₀ L h (fun y => if y = x1 then some v1 else if y = x2 then some v2 else if y = x3 then some v3 else if y = x4 then some v4 else if y = x5 then some v5 else if y = x6 then some v6 else if y = x7 then some v7 else if y = x8 then some v8 else u y) := by
  have e : (fun y => if y = x1 then some v1 else if y = x2 then some v2 else if y = x3 then some v3 else if y = x4 then some v4 else if y = x5 then some v5 else if y = x6 then some v6 else if y = x7 then some v7 else if y = x8 then some v8 else m y) = m := by
    funext y
    by_cases hy : y = x1
    · rw [if_pos hy, hy, h1]
    rw [if_neg hy]
    by_cases hy : y = x2
    · rw [if_pos hy, hy, h2]
    rw [if_neg hy]
    by_cases hy : y = x3
    · rw [if_pos hy, hy, h3]
    rw [if_neg hy]
    by_cases hy : y = x4
    · rw [if_pos hy, hy, h4]
    rw [if_neg hy]
    by_cases hy : y = x5
    · rw [if_pos hy, hy, h5]
    rw [if_neg hy]
    by_cases hy : y = x6
    · rw [if_pos hy, hy, h6]
    rw [if_neg hy]
    by_cases hy : y = x7
    · rw [if_pos hy, hy, h7]
    rw [if_neg hy]
    by_cases hy : y = x8
    · rw [if_pos hy, hy, h8]
    rw [if_neg hy]
  exact ⟨m, by rw [e]; exact F⟩
theorem fr_seven {h₀ h : Heap} {L : Addr} {m : Str → Option Value} (x1 x2 x3 x4 x5 x6 x7 : Str) {v1 v2 v3 v4 v5 v6 v7 : Value} (F : Fr h₀ L h m) (h1 : m x1 = some v1) (h2 : m x2 = some v2) (h3 : m x3 = some v3) (h4 : m x4 = some v4) (h5 : m x5 = some v5) (h6 : m x6 = some v6) (h7 : m x7 = some v7) :
    ∃ u : Str → Option Value, Fr h₀ L h (fun y => if y = x1 then some v1 else if y = x2 then some v2 else if y = x3 then some v3 else if y = x4 then some v4 else if y = x5 then some v5 else if y = x6 then some v6 else if y = x7 then some v7 else u y) := by
  have e : (fun y => if y = x1 then some v1 else if y = x2 then some v2 else if y = x3 then some v3 else if y = x4 then some v4 else if y = x5 then some v5 else if y = x6 then some v6 else if y = x7 then some v7 else m y) = m := by
    funext y
    by_cases hy : y = x1
    · rw [if_pos hy, hy, h1]
    rw [if_neg hy]
    by_cases hy : y = x2
    · rw [if_pos hy, hy, h2]
    rw [if_neg hy]
    by_cases hy : y = x3
    · rw [if_pos hy, hy, h3]
    rw [if_neg hy]
    by_cases hy : y = x4
    · rw [if_pos hy, hy, h4]
    rw [if_neg hy]
    by_cases hy : y = x5
    · rw [if_pos hy, hy, h5]
    rw [if_neg hy]
    by_cases hy : y = x6
    · rw [if_pos hy, hy, h6]
    rw [if_neg hy]
    by_cases hy : y = x7
    · rw [if_pos hy, hy, h7]
    · rw [if_neg hy]
  exact ⟨m, by rw [e]; exact F⟩
theorem WP.next {ww mm i : Nat} {row rs : List Nat} {c : WS} {c' : Obj} {t1 t2 t3 t4 : Tok} {x : Option Value} (H : WP ww row rs i c) (hi : i < mm) (hrl : row.length = mm) (hrsl : rs.length = row.length) (hc : c'.data = .cell x) :
    WP ww row rs (i + 1) ⟨c', c.w * 2 ^ ((ww : Nat) : Int).toNat + (row.map fun (n : Nat) => (n : Int)).getD ((0 : Int) + (i : Int)).toNat 0, t1,
      c.l * 2 ^ ((ww : Nat) : Int).toNat + (rs.map fun (n : Nat) => (n : Int)).getD ((0 : Int) + (i : Int)).toNat 0, t2,
      c.s * 2 ^ ((ww : Nat) : Int).toNat + ((rs.map fun (n : Nat) => (n : Int)).take (((0 : Int) + (i : Int)) + 1).toNat).sum, t3,
      c.n * 2 ^ ((ww : Nat) : Int).toNat + (((0 : Int) + (i : Int)) * (((0 : Int) + (i : Int)) + 1)).fdiv 2, t4⟩ :=
  ⟨⟨x, hc⟩, step_w (by lia) H.w, step_w (by lia) H.l, step_s H.s, step_n H.n⟩
end Mine
end
section
open PySem PySem.W PyProof.Rows
namespace Mine
theorem news_front {h₀ h : Heap} {L : Addr} {A B : List (Addr × Obj)} {x : Addr × Obj} (N : News h₀ L h (A ++ x :: B)) : News h₀ L h (x :: (A ++ B)) := fun p hp => N p (by
  rcases List.mem_cons.mp hp with rfl | hp
  · exact List.mem_append_right _ List.mem_cons_self
  · rcases List.mem_append.mp hp with hp | hp
    · exact List.mem_append_left _ hp
    · exact List.mem_append_right _ (List.mem_cons_of_mem _ hp))
end Mine
end
section
open PySem PySem.W PyProof.Rows PySem.Calls PyProof.V PySem.Spec PyProof
open PyProof.Rows.LCg (NsObj lst Off3 Off1 SrcAt FinA ns_obj fr_but news_but lst_snoc list_st)
set_option maxRecDepth 100000
set_option maxHeartbeats 2000000
namespace Mine
/-! a comprehension of whole numbers over a list of pairs, with a test -/
section
variable {prog : Program} {w : World} {A : Around} {E : Value → Shared → Prop} {s : Shared} {h₀ : Heap} {L : Addr} {m : Str → Option Value} {env : Env}
theorem pt_loop {ct elt target iter : PySem.Expr} {scope : Scope} {pos : Pos} {it acc : Value} {env : Env} {R : Result → Shared → Prop} (J : Nat → Shared → Prop)
    (turn : ∀ n s, J n s → wpAny (model prog w) A (pyNext it) (fun r s₁ => match r with
      | none => R (.ok .next) s₁
      | some v => wpAny (model prog w) A (letOwnedTupleGo target it v) (fun _ s₂ => wpAny (model prog w) A (assign target env v) (fun _ s₃ => wpAny (model prog w) A (isTrue ct env (eval ct env)) (fun ok s₄ =>
          if ok = true then wpAny (model prog w) A (eval elt env) (fun x s₅ => wpAny (model prog w) A (call (.builtin "list.append") [acc, x]) (fun _ s₆ => ∃ m, m < n ∧ J m s₆) (notedBy (model prog w) A env fun e s' => R (.error e) s') s₅) (notedBy (model prog w) A env fun e s' => R (.error e) s') s₄
          else ∃ m, m < n ∧ J m s₄) (notedBy (model prog w) A env fun e s' => R (.error e) s') s₃) (notedBy (model prog w) A env fun e s' => R (.error e) s') s₂) (notedBy (model prog w) A env fun e s' => R (.error e) s') s₁)
      (notedBy (model prog w) A env fun e s' => R (.error e) s') s)
    (n : Nat) (h : J n s) : codeAny (model prog w) A (.compLoop (.ListComp elt [⟨target, iter, [ct], 0⟩] scope pos) 0 it acc env) R s := by
  refine codeAny_loop rfl J (fun n s hJ => ?_) n h
  show wpAny _ A ((compTurn (.ListComp elt [⟨target, iter, [ct], 0⟩] scope pos) 0 it acc env).onRaise (fun x => do noteFrame x env; theTreesLotGoes x)) _ _ s
  refine wpAny_noted ?_
  rw [compTurn_list]
  refine wpAny_bind (wpAny_standAt (wpAny_bind (wpAny_mono (turn n s hJ) (fun r s₁ h1 => ?_) fun _ _ e => e)))
  match r, h1 with
  | none, h1 => exact wpAny_pure h1
  | some v, h1 =>
    refine wpAny_bind (wpAny_mono h1 (fun _ s₂ h2 => wpAny_bind (wpAny_mono h2 (fun _ s₃ h3 => ?_) fun _ _ e => e)) fun _ _ e => e)
    refine wpAny_bind (wpAny_tests_one (wpAny_mono h3 (fun ok s₄ h4 => ?_) fun _ _ e => e))
    cases ok with
    | false => exact wpAny_pure ⟨rfl, h4⟩
    | true =>
      refine wpAny_bind (wpAny_bind (wpAny_mono (show wpAny _ _ _ _ _ _ from h4) (fun x s₅ h5 => ?_) fun _ _ e => e))
      exact wpAny_bind (wpAny_mono h5 (fun _ s₆ h6 => wpAny_pure (wpAny_pure ⟨rfl, h6⟩)) fun _ _ e => e)
end
end Mine
namespace Mine
section
variable {prog : Program} {w : World} {A : Around} {E : Value → Shared → Prop} {s : Shared} {h₀ : Heap} {L : Addr} {m : Str → Option Value} {env : Env}
noncomputable def SrcPT (prog : Program) (w : World) (A : Around) (h₀ : Heap) (L : Addr) (m : Str → Option Value) (env : Env) (ct elt : PySem.Expr) (x x₂ y : Str) (scope : Scope) (cl : List (Str × Addr)) (Q : Flow → Shared → Prop) (xv : Value) (s : Shared) : Prop :=
  ∃ (tl : List TT) (g : TT → Bool) (f : TT → Int) (q : Addr) (kk : Nat) (nw : List (Addr × Obj)), xv = .ref q ∧ A.handled = none ∧ Fr h₀ L s.heap m ∧ News h₀ L s.heap nw ∧ (q, listOf (tl.map TT.r).toArray kk) ∈ nw ∧ tl.length ≤ sizeLine ∧ (∀ z ∈ tl, z.e ∈ nw) ∧
    (∀ (z : TT) ys I oI C oC D m₂ (s₁ : Shared) (E' : Value → Shared → Prop), (∃ h tk, s₁ = { s with heap := h, toks := tk }) → z ∈ tl → NsObj oC m₂ → m₂ x = some (.int z.a z.t) → m₂ x₂ = some (.int z.b z.u) → Fr h₀ L s₁.heap m → News h₀ L s₁.heap ((I, oI) :: (C, oC) :: (D, lst ys) :: nw) →
      wpAny (model prog w) A (isTrue ct (compEnvC scope cl C env) (eval ct (compEnvC scope cl C env))) (CTEnd h₀ L m ((I, oI) :: (C, oC) :: (D, lst ys) :: nw) (g z) s₁) E' s₁) ∧
    (∀ (z : TT) ys I oI C oC D m₂ (s₁ : Shared) (E' : Value → Shared → Prop), (∃ h tk, s₁ = { s with heap := h, toks := tk }) → z ∈ tl → g z = true → NsObj oC m₂ → m₂ x = some (.int z.a z.t) → m₂ x₂ = some (.int z.b z.u) → Fr h₀ L s₁.heap m → News h₀ L s₁.heap ((I, oI) :: (C, oC) :: (D, lst ys) :: nw) →
      wpAny (model prog w) A (eval elt (compEnvC scope cl C env)) (CIEnd h₀ L m ((I, oI) :: (C, oC) :: (D, lst ys) :: nw) (f z) s₁) E' s₁) ∧
    (∀ D ys h tk, IntsAre ys ((tl.filter g).map f) → (∀ p ∈ nw, p.1 ≠ D) → Fr h₀ L h (fun z => if z = y then some (.ref D) else m z) → News h₀ L h ((D, listOf ys.toArray ys.length) :: nw) → Q .next { s with heap := h, toks := tk })
theorem pt_turns {ct elt iter : PySem.Expr} {x x₂ : Str} {px px₂ tp : Pos} {tk0} {scope : Scope} {cl : List (Str × Addr)} {pos : Pos} {tl : List TT} {g : TT → Bool} {f : TT → Int} {q : Addr} {kk : Nat} {nw : List (Addr × Obj)} {RR : Value → Addr → Result → Shared → Prop}
    (hh : A.handled = none) (hkind : scope.kind = .function) (hcell : ∀ z ∈ scope.names, z.2 ≠ .cell) (hx : scope.names.lookup x = some .local) (hx₂ : scope.names.lookup x₂ = some .local) (hxx : x ≠ x₂)
    (F : Fr h₀ L s.heap m) (N : News h₀ L s.heap nw) (hq : (q, listOf (tl.map TT.r).toArray kk) ∈ nw) (hsz : tl.length ≤ sizeLine) (htl : ∀ z ∈ tl, z.e ∈ nw)
    (test : ∀ (z : TT) ys I oI C oC D m₂ (s₁ : Shared) (E' : Value → Shared → Prop), (∃ h tk, s₁ = { s with heap := h, toks := tk }) → z ∈ tl → NsObj oC m₂ → m₂ x = some (.int z.a z.t) → m₂ x₂ = some (.int z.b z.u) → Fr h₀ L s₁.heap m → News h₀ L s₁.heap ((I, oI) :: (C, oC) :: (D, lst ys) :: nw) →
      wpAny (model prog w) A (isTrue ct (compEnvC scope cl C env) (eval ct (compEnvC scope cl C env))) (CTEnd h₀ L m ((I, oI) :: (C, oC) :: (D, lst ys) :: nw) (g z) s₁) E' s₁)
    (elem : ∀ (z : TT) ys I oI C oC D m₂ (s₁ : Shared) (E' : Value → Shared → Prop), (∃ h tk, s₁ = { s with heap := h, toks := tk }) → z ∈ tl → g z = true → NsObj oC m₂ → m₂ x = some (.int z.a z.t) → m₂ x₂ = some (.int z.b z.u) → Fr h₀ L s₁.heap m → News h₀ L s₁.heap ((I, oI) :: (C, oC) :: (D, lst ys) :: nw) →
      wpAny (model prog w) A (eval elt (compEnvC scope cl C env)) (CIEnd h₀ L m ((I, oI) :: (C, oC) :: (D, lst ys) :: nw) (f z) s₁) E' s₁)
    (fin : ∀ D C h tk m' ys, IntsAre ys ((tl.filter g).map f) → (∀ p ∈ nw, p.1 ≠ D ∧ p.1 ≠ C) → Fr h₀ L h m → News h₀ L h ((D, lst ys) :: nw) → h.Ns C m' → h₀.get? C = none → C ≠ L → D ≠ L → C ≠ D → RR (.ref D) C (.ok .next) { s with heap := h, toks := tk }) :
    wpAny (model prog w) A (pyIter (.ref q)) (fun it s₂ => wpAny (model prog w) A (newList []) (fun acc s₃ => wpAny (model prog w) A (newFunctionEnv scope env.globals cl [] env.qual none .none (some env)) (fun cenv s₄ =>
      codeAny (model prog w) A (.compStart (.ListComp elt [⟨.Tuple [.Name x px, .Name x₂ px₂] tk0 tp, iter, [ct], 0⟩] scope pos) 0 it acc { cenv with scope := relabel scope env }) (RR acc cenv.locals) s₄) E s₃) E s₂) E s := by
  have hol := (N _ hq).1
  have hls : s.heap.IsList q (tl.map TT.r).toArray := ⟨_, hol, rfl, kk, rfl⟩
  have hqlt : q < s.heap.objs.size := Heap.lt_size hol
  have hn : (tl.map TT.r).toArray.size = tl.length := by rw [List.size_toArray, List.length_map]
  refine wpAny_pyIter_list hls ?_
  -- the three new objects: the iterator, the list, the names
  obtain ⟨I, hIa⟩ : ∃ I : Nat, s.heap.objs.size = I := ⟨_, rfl⟩
  rw [hIa] at hqlt ⊢
  obtain ⟨g1, hg1⟩ : ∃ g1, g1 = s.heap.push { cls := .type "list_iterator", data := .fields #[.ref q, .int 0 0] } := ⟨_, rfl⟩
  have up1 : ∀ b o, s.heap.get? b = some o → g1.get? b = some o := fun b o e => hg1 ▸ Heap.get?_push_of_some _ e
  have hs1 : g1.objs.size = I + 1 := by rw [hg1, Heap.size_push, hIa]
  have hit1 : g1.IsListIter I q 0 := hg1 ▸ hIa ▸ ⟨_, Heap.get?_push_size _ rfl, rfl, rfl⟩
  rw [← hg1]
  refine wpAny_newObj_type (wpAny_newFunctionEnv hcell (by intro y hy; simp at hy) (fun h₁ hns₁ hsb₁ => ?_) hkind)
  dsimp only at hns₁ hsb₁ ⊢
  obtain ⟨g2, hg2⟩ : ∃ g2, g2 = g1.push { cls := Value.type "list", data := Data.seq #[] } := ⟨_, rfl⟩
  rw [← hg2] at hns₁ hsb₁ ⊢
  have hs2 : g2.objs.size = I + 2 := by rw [hg2, Heap.size_push, hs1]
  have up2 : ∀ b o, g1.get? b = some o → g2.get? b = some o := fun b o e => hg2 ▸ Heap.get?_push_of_some _ e
  have hDl : g2.get? (I + 1) = some (lst []) := by rw [hg2, ← hs1]; exact Heap.get?_push_size _ rfl
  have h1of : ∀ (b : Nat) o, b < I + 2 → g2.get? b = some o → h₁.get? b = some o := fun b o hb e =>
    hsb₁.extBut b o (by rw [hs2]; exact Nat.ne_of_lt hb) (Heap.get?_push_of_some _ e)
  have old : ∀ b o, s.heap.get? b = some o → h₁.get? b = some o := fun b o e => h1of b o (by have := Heap.lt_size e; rw [hIa] at this; exact Nat.lt_trans this (by lia)) (up2 b o (up1 b o e))
  have hDh : h₁.get? (I + 1) = some (lst []) := h1of _ _ (by lia) hDl
  have hitC : h₁.IsListIter I q 0 := hit1.at fun o e => h1of _ _ (by lia) (up2 _ _ e)
  rw [hs2] at hns₁
  have none0 : ∀ (a : Nat), I ≤ a → h₀.get? a = none := fun a ha => by
    cases e : h₀.get? a with
    | none => rfl
    | some o =>
      have := Heap.lt_size (F.keep a o e)
      rw [hIa] at this; exact absurd this (Nat.not_lt.mpr ha)
  have hLI : @LT.lt Nat _ L I := hIa ▸ F.ns.lt
  have hnI : ∀ p ∈ nw, @LT.lt Nat _ p.1 I := fun p hp => hIa ▸ Heap.lt_size (N p hp).1
  have hCL : @Ne Nat (I + 2) L := Nat.ne_of_gt (Nat.lt_trans hLI (by lia))
  have hDL : @Ne Nat (I + 1) L := Nat.ne_of_gt (Nat.lt_succ_of_lt hLI)
  have hIL : @Ne Nat L I := Nat.ne_of_lt hLI
  have W := Walks.list (prog := prog) (w := w) hh I q (Nat.ne_of_lt hqlt) (tl.map TT.r).toArray
  rw [hn] at W
  have loop : ∀ s₃ : Shared, (∃ tk, s₃ = { s with heap := h₁, toks := tk }) →
      codeAny (model prog w) A (.compLoop (.ListComp elt [⟨.Tuple [.Name x px, .Name x₂ px₂] tk0 tp, iter, [ct], 0⟩] scope pos) 0 (.ref I) (.ref (I + 1)) (compEnvC scope cl (I + 2) env)) (RR (.ref (I + 1)) (I + 2)) s₃ := by
    rintro s₃ ⟨tk3, rfl⟩
    refine pt_loop (fun k s' => ∃ h' tk i ys m', s' = { s with heap := h', toks := tk } ∧ i ≤ tl.length ∧ k = tl.length + 1 - i ∧ ys.length ≤ i ∧ IntsAre ys (((tl.take i).filter g).map f) ∧ h'.IsListIter I q i ∧ Fr h₀ L h' m ∧ h'.Ns (I + 2) m' ∧ News h₀ L h' ((I + 1, lst ys) :: nw))
      ?_ (tl.length + 1) ⟨h₁, tk3, 0, [], _, rfl, Nat.zero_le _, rfl, Nat.le_refl _, .nil, hitC, F.keeps old, hns₁, fun p hp => ?_⟩
    · rintro k s' ⟨h', tk, i, ys, m', rfl, hi, rfl, hyl, hys, hit, F', hn', N'⟩
      have hls' : h'.IsList q (tl.map TT.r).toArray := ⟨_, (N' _ (List.mem_cons_of_mem _ hq)).1, rfl, kk, rfl⟩
      have offI : ∀ p ∈ (I + 1, lst ys) :: nw, p.1 ≠ I := fun p hp => by
        rcases List.mem_cons.mp hp with rfl | hp
        · exact Nat.succ_ne_self I
        · exact Nat.ne_of_lt (hnI p hp)
      have hC2 : I + 2 ∉ [I] := fun hm => absurd (List.mem_singleton.mp hm) (by show ¬ (I + 2 = I); lia)
      by_cases hlt : i < tl.length
      · refine W.item i _ _ _ hlt ⟨hit, hls'⟩ fun v h₂ tk₂ hv hst₂ hk₂ => ?_
        obtain ⟨z, hz, hzm, rfl⟩ := tt_at (tl := tl) (i := i) (v := v) (by simpa using hv)
        have F₂ : Fr h₀ L h₂ m := fr_but F' hk₂ hIL (none0 I (Nat.le_refl _))
        have N₂ : News h₀ L h₂ ((I + 1, lst ys) :: nw) := news_but N' hk₂ offI
        have hn₂ : h₂.Ns (I + 2) m' := hn'.at' fun o e => hk₂ _ o hC2 e
        have htz : IsTup h₂ z.p #[.int z.a z.t, .int z.b z.u] := ⟨_, (N₂ _ (List.mem_cons_of_mem _ (htl z hzm))).1, rfl, 0, rfl⟩
        refine wpAny_letOwnedTupleGo_listiter hst₂.1 ?_
        refine assign_Tuple_tuple hh htz rfl rfl fun h₃ he => ?_
        have k3 : ∀ b o, h₂.get? b = some o → h₃.get? b = some o := fun b o e => he b o (Nat.ne_of_lt (Heap.lt_size e)) e
        refine assignInOrder_cons (wpAny_assign_Name (wpAny_storeName_local (lookup_relabel_local hx) (hn₂.at' fun o e => k3 _ o e) (fun h₄ hn₄ hs₄ => ?_) (by simp [compEnvC, relabel, hkind])))
        refine assignInOrder_cons (wpAny_assign_Name (wpAny_storeName_local (lookup_relabel_local hx₂) hn₄ (fun h₅ hn₅ hs₅ => ?_) (by simp [compEnvC, relabel, hkind])))
        refine assignInOrder_nil ?_
        have k5 : ∀ (b : Nat) o, b ≠ I + 2 → h₂.get? b = some o → h₅.get? b = some o := fun b o hb e => hs₅.extBut b o hb (hs₄.extBut b o hb (k3 b o e))
        have F₅ : Fr h₀ L h₅ m := ((F₂.keeps k3).change hs₄ hCL (none0 (I + 2) (by lia))).change hs₅ hCL (none0 (I + 2) (by lia))
        have N₅ : News h₀ L h₅ ((I + 1, lst ys) :: nw) := fun p hp => by
          refine ⟨k5 _ _ ?_ (N₂ p hp).1, (N₂ p hp).2⟩
          rcases List.mem_cons.mp hp with rfl | hp
          · show ¬ (I + 1 = I + 2); lia
          · exact Nat.ne_of_lt (Nat.lt_trans (hnI p hp) (by lia))
        obtain ⟨oI, hoI, hI5⟩ := hst₂.1
        have hoI5 : h₅.get? I = some oI := k5 _ _ (by lia) hoI
        obtain ⟨oC, hoC, hC5⟩ := ns_obj hn₅
        have N₆ : News h₀ L h₅ ((I, oI) :: (I + 2, oC) :: (I + 1, lst ys) :: nw) := fun p hp => by
          rcases List.mem_cons.mp hp with rfl | hp
          · exact ⟨hoI5, Ne.symm hIL, none0 I (Nat.le_refl _)⟩
          rcases List.mem_cons.mp hp with rfl | hp
          · exact ⟨hoC, hCL, none0 _ (by lia)⟩
          · exact N₅ p hp
        have htk : (tl.take (i + 1)).filter g = (tl.take i).filter g ++ (if g z then [z] else []) := by
          rw [List.take_add_one, hz, List.filter_append]
          cases hgz : g z <;> simp [hgz]
        refine wpAny_mono (test z ys I oI (I + 2) oC (I + 1) _ _ _ ⟨_, _, rfl⟩ hzm hC5 (by simp [hxx]) (by simp) F₅ N₆) (fun ok s₆ h6 => ?_) fun _ _ e => e
        obtain ⟨rfl, h₆, tk₆, rfl, F₆, N₆'⟩ := h6
        have zI : h₆.IsListIter I q (i + 1) := ⟨oI, (N₆' _ List.mem_cons_self).1, hI5⟩
        have zC := (N₆' _ (List.mem_cons_of_mem _ List.mem_cons_self)).1
        cases hgz : g z with
        | false =>
          rw [if_neg (by decide)]
          refine ⟨tl.length + 1 - (i + 1), by lia, h₆, tk₆, i + 1, ys, _, rfl, hlt, rfl, Nat.le_succ_of_le hyl, ?_, zI, F₆, hC5.ns zC, fun p hp => N₆' p (List.mem_cons_of_mem _ (List.mem_cons_of_mem _ hp))⟩
          rw [htk, hgz]
          simpa using hys
        | true =>
          rw [if_pos rfl]
          refine wpAny_mono (elem z ys I oI (I + 2) oC (I + 1) _ _ _ ⟨_, _, rfl⟩ hzm hgz hC5 (by simp [hxx]) (by simp) F₆ N₆') (fun y7 s₇ h7 => ?_) fun _ _ e => e
          obtain ⟨t7, h₇, tk₇, rfl, rfl, F₇, N₇⟩ := h7
          have yI : h₇.IsListIter I q (i + 1) := ⟨oI, (N₇ _ List.mem_cons_self).1, hI5⟩
          have yC := (N₇ _ (List.mem_cons_of_mem _ List.mem_cons_self)).1
          have yD := (N₇ _ (List.mem_cons_of_mem _ (List.mem_cons_of_mem _ List.mem_cons_self))).1
          refine append_at (hsz := by show ys.toArray.size ≤ sizeLine; rw [List.size_toArray]; lia) yD fun h₈ hs₈ hD₈ => ?_
          refine ⟨tl.length + 1 - (i + 1), by lia, h₈, tk₇, i + 1, ys ++ [.int (f z) t7], _, rfl, hlt, rfl, by rw [List.length_append]; exact Nat.succ_le_succ hyl, ?_, yI.at fun o e => hs₈.extBut _ o (by show ¬ (I = I + 1); lia) e,
            F₇.change hs₈ hDL (none0 _ (by lia)), (hC5.ns yC).sameBut hs₈ (by show ¬ (I + 2 = I + 1); lia), fun p hp => ?_⟩
          · rw [htk, hgz, if_pos rfl, List.map_append]
            exact hys.append (.cons _ _ .nil)
          · rcases List.mem_cons.mp hp with rfl | hp
            · exact ⟨hD₈.trans (congrArg some (lst_snoc ys _)), hDL, none0 _ (by lia)⟩
            · have z7 := N₇ p (List.mem_cons_of_mem _ (List.mem_cons_of_mem _ (List.mem_cons_of_mem _ hp)))
              exact ⟨hs₈.extBut _ _ (Nat.ne_of_lt (Nat.lt_succ_of_lt (hnI p hp))) z7.1, z7.2⟩
      · obtain rfl : i = tl.length := Nat.le_antisymm hi (Nat.not_lt.mp hlt)
        rw [List.take_length] at hys
        refine W.done _ _ _ ⟨hit, hls'⟩ fun h₂ tk₂ hk₂ => ?_
        exact fin (I + 1) (I + 2) h₂ tk₂ m' ys hys (fun p hp => by have := hnI p hp; exact ⟨Nat.ne_of_lt (Nat.lt_succ_of_lt this), Nat.ne_of_lt (Nat.lt_trans this (by lia))⟩) (fr_but F' hk₂ hIL (none0 I (Nat.le_refl _)))
          (news_but N' hk₂ offI) (hn'.at' fun o e => hk₂ _ o hC2 e) (none0 _ (by lia)) hCL hDL (by show ¬ (I + 2 = I + 1); lia)
    · rcases List.mem_cons.mp hp with rfl | hp
      · exact ⟨hDh, hDL, none0 _ (by lia)⟩
      · exact ⟨old _ _ (N p hp).1, (N p hp).2⟩
  rw [hs1]
  have hst₁ : h₁.IsListIter I q 0 ∧ h₁.IsList q (tl.map TT.r).toArray := ⟨hitC, hls.at fun o e => old _ o e⟩
  simp only [newEnv, hs2]
  exact codeAny_compStart_list (loop _ ⟨_, rfl⟩) (W.self 0 _ _ _ hst₁ (loop _ ⟨_, rfl⟩))
theorem Assign_PT {ct elt iter : PySem.Expr} {x x₂ y : Str} {px px₂ tp py : Pos} {tk0} {scope : Scope} {cl : List (Str × Addr)} {pos spos : Pos} {Q : Flow → Shared → Prop} (hLe : env.locals = L)
    (hsw : swapsWith (.ListComp elt [⟨.Tuple [.Name x px, .Name x₂ px₂] tk0 tp, iter, [ct], 0⟩] scope pos) (some (.Name y py)) spos.line env = pure true)
    (hclos : closureFor scope env = pure cl) (hcell : ∀ z ∈ scope.names, z.2 ≠ .cell) (hkind : scope.kind = .function)
    (hnames : ∀ z ∈ scope.names, z.2 = .local → scope.names.lookup z.1 = some .local) (hx : scope.names.lookup x = some .local) (hx₂ : scope.names.lookup x₂ = some .local) (hxx : x ≠ x₂)
    (hy : env.kindOf y = some .local) (hp : (env.scope.kind == .class || (env.scope.kind == .module && env.locals != env.globals)) = false)
    (h : wpAny (model prog w) A (eval iter env) (SrcPT prog w A h₀ L m env ct elt x x₂ y scope cl Q) E s)
    (hs : ∀ x, foldedSetIterable iter env x = pure x := by intro _; rfl) :
    wpAny (model prog w) A (exec (.Assign [.Name y py] (.ListComp elt [⟨.Tuple [.Name x px, .Name x₂ px₂] tk0 tp, iter, [ct], 0⟩] scope pos) spos) env) Q E s := by
  subst hLe
  rw [exec_Assign_Name_used _ _ _ _ hsw]
  refine wpAny_bind (wpAny_standAt (wpAny_bind ?_))
  show wpAny _ A (do let _ ← comprehension (.ListComp elt [⟨.Tuple [.Name x px, .Name x₂ px₂] tk0 tp, iter, [ct], 0⟩] scope pos) scope env _ (newList []) false (eval iter env) (some (assign (.Name y py) env))) _ _ s
  refine wpAny_bind (wpAny_mono (wpAny_comprehension_free (use := some (assign (.Name y py) env)) (Q := fun _ s' => Q .next s') rfl hs hclos hkind hnames
    (wpAny_mono h (fun xv s₁ h₁ => ?_) fun _ _ e => e)) (fun _ s' hq => wpAny_pure (wpAny_pure hq)) fun _ _ e => e)
  obtain ⟨tl, g, f, q, kk, nw, rfl, hh, F, N, hq, hsz, htl, test, elem, fin⟩ := h₁
  refine pt_turns (g := g) (f := f) hh hkind hcell hx hx₂ hxx F N hq hsz htl test elem ?_
  intro D C h' tk m' ys hys off F' N' hn hC₀ hCL hDL hCD
  show wpAny _ A (assign (.Name y py) env (.ref D)) _ _ _
  refine wpAny_assign_Name (wpAny_storeName_local hy F'.ns (fun h₂ hn₂ hs₂ => ?_) hp)
  have hL₀ : h₀.get? env.locals = none := Heap.get?_none_of_le F'.above
  have F₂ : Fr h₀ env.locals h₂ (fun z => if z = y then some (.ref D) else m z) := ⟨hn₂, fun b o e => hs₂.extBut b o (fun q => by rw [q, hL₀] at e; cases e) (F'.keep b o e), F'.above⟩
  refine ⟨m', hn.sameBut hs₂ hCL, fun h'' hs'' => fin D ys h'' _ hys (fun p hp => (off p hp).1) (F₂.change hs'' hCL hC₀) (fun p hp => ?_)⟩
  have z : h₂.get? p.1 = some p.2 := hs₂.extBut _ _ (N' p hp).2.1 (N' p hp).1
  refine ⟨hs''.extBut _ _ ?_ z, (N' p hp).2⟩
  rcases List.mem_cons.mp hp with rfl | hp
  · exact Ne.symm hCD
  · exact (off p hp).2
end
end Mine
end
section
open PySem PySem.W PyProof.Rows PySem.Calls PyProof.V PySem.Spec PyProof
open PyProof.Rows.LCg (NsObj lst Off3 Off1 SrcAt CompEnd CompRest FinE FinA CompSrc)
set_option maxRecDepth 100000
namespace Mine
section
variable {prog : Program} {w : World} {A : Around} {E : Value → Shared → Prop} {s : Shared} {h₀ : Heap} {L : Addr} {m : Str → Option Value} {env : Env}
noncomputable def dataTT (y : TT) : PyData := .tuple [.int y.a, .int y.b]
theorem reads_tts {h : Heap} : ∀ (tl : List TT), (∀ y ∈ tl, h.get? y.p = some y.e.2) → ∃ as, ReadsAll h (tl.map TT.r) (tl.map dataTT) as
  | [], _ => ⟨_, .nil⟩
  | y :: r, hy => by
    obtain ⟨as, h2⟩ := reads_tts r fun z hz => hy z (List.mem_cons_of_mem _ hz)
    have h1 : Reads h (.ref y.p) (dataTT y) _ := reads_tuple_at (hy y List.mem_cons_self) rfl rfl (.cons (.int _ _) (.cons (.int _ _) .nil))
    exact ⟨_, .cons h1 h2⟩
theorem lay_tts : ∀ tl : List TT, PyData.canLayAll0 (tl.map dataTT) = true
  | [] => rfl
  | _ :: r => by simp [PyData.canLayAll0, PyData.canLay0, dataTT, lay_tts r]
theorem depth_tts : ∀ tl : List TT, PyData.depthAll (tl.map dataTT) ≤ 1
  | [] => by simp [PyData.depthAll]
  | _ :: r => by
    have := depth_tts r
    simp [PyData.depthAll, PyData.depth, dataTT]
    omega
theorem shaped_tts (tl : List TT) : SeqAt.shaped (.list (tl.map dataTT)) = true := by
  have := depth_tts tl
  simp [SeqAt.shaped, PyData.canLay0, PyData.depth, lay_tts tl]
  omega
theorem r_ne_pairs {a b : Addr} {k1 k2 : Nat} {tl : List TT} {nw : List (Addr × Obj)} {Q : Value → Shared → Prop} (N : News h₀ L s.heap nw) (ha : (a, listOf (tl.map TT.r).toArray k1) ∈ nw) (hb : (b, listOf #[] k2) ∈ nw) (ht : ∀ y ∈ tl, y.e ∈ nw) (hu : A.units + 64 < cLine)
    (h : Q (.bool (!decide (tl = []))) s) : wpAny (model prog w) A (compareOp .NotEq (.ref a) (.ref b)) Q E s := by
  obtain ⟨as, hr⟩ := reads_tts tl fun y hy => (N _ (ht y hy)).1
  have ra : Reads s.heap (.ref a) (.list (tl.map dataTT)) _ := reads_list_at (N _ ha).1 rfl rfl hr
  have rb : Reads s.heap (.ref b) (.list (([] : List TT).map dataTT)) _ := reads_list_at (N _ hb).1 rfl rfl .nil
  refine ne_dataH ra rb (shaped_tts tl) (shaped_tts []) hu ?_
  cases tl with
  | nil => exact h
  | cons y r => exact h
theorem r_eq_nil {a b : Addr} {k1 k2 : Nat} {xs : List Value} {ns : List Int} {nw : List (Addr × Obj)} {Q : Value → Shared → Prop} (N : News h₀ L s.heap nw) (ha : (a, listOf xs.toArray k1) ∈ nw) (hb : (b, listOf #[] k2) ∈ nw) (hi : IntsAre xs ns) (hu : A.units + 64 < cLine)
    (h : Q (.bool (decide (ns = []))) s) : wpAny (model prog w) A (compareOp .Eq (.ref a) (.ref b)) Q E s :=
  ke_eq_ints (ys := []) (ms := []) ⟨_, (N _ ha).1, rfl, k1, rfl⟩ ⟨_, (N _ hb).1, rfl, k2, rfl⟩ hi .nil hu h
theorem r_lcip_range {elt : PySem.Expr} {x : Str} {scope : Scope} {cl : List (Str × Addr)} {Q : Value → Shared → Prop} {r : Addr} {a b : Int} {t u v : Tok} {nw : List (Addr × Obj)} (n : Nat) (f : Nat → Int × Int)
    (hh : A.handled = none) (F : Fr h₀ L s.heap m) (N : News h₀ L s.heap nw) (hr : IsRange s.heap r a b 1 t u v) (hsm : Builtin.Range.small a b 1 = true) (hn : Builtin.Range.rangeSize a b 1 = ((n : Nat) : Int)) (hsz : n ≤ sizeLine)
    (turn : ∀ i v (nw' : List (Addr × Obj)) ys I oI C oC D m₂ (s₁ : Shared) (E' : Value → Shared → Prop), (∃ h tk, s₁ = { s with heap := h, toks := tk }) → i < n → (∃ t, v = .int (a + (i : Int)) t) → (∀ p ∈ nw, p ∈ nw') → NsObj oC m₂ → m₂ x = some v → Fr h₀ L s₁.heap m → News h₀ L s₁.heap ((I, oI) :: (C, oC) :: (D, lst ys) :: nw') →
      wpAny (model prog w) A (eval elt (compEnvC scope cl C env)) (CPEnd h₀ L m ((I, oI) :: (C, oC) :: (D, lst ys) :: nw') (f i).1 (f i).2 s₁) E' s₁)
    (ret : ∀ D (tl' : List TT) (nw' : List (Addr × Obj)) h tk, tl'.map TT.v = (List.range n).map f → (∀ y ∈ tl', y.e ∈ nw') → (∀ p ∈ nw, p ∈ nw') → (∀ p ∈ nw', p.1 ≠ D) → Fr h₀ L h m → News h₀ L h ((D, listOf (tl'.map TT.r).toArray (tl'.map TT.r).length) :: nw') → Q (.ref D) { s with heap := h, toks := tk }) :
    CompSrc prog w A h₀ L m env elt x scope cl (fun s₂ => FinE h₀ L m s₂ Q) (.ref r) s := by
  refine CompSrc.range hh F N hr hsm hn hsz fun g => ?_
  refine lcip_ind (s := { s with heap := g }) (S := fun _ => True) (Fin := FinE h₀ L m { s with heap := g } Q) n f (fun _ _ => trivial) turn ?_ n 0 [] nw rfl rfl (fun _ h => (nomatch h)) (fun _ h => h)
  intro tl' nw' hv ht hk D h tk F' N' off
  exact ret D tl' nw' h tk hv ht hk (off_ne off) F' N'
theorem r_in {l : Addr} {vs : List Value} {ns : List Int} {x : Int} {t : Tok} {k : Nat} {nw : List (Addr × Obj)} {Q : Value → Shared → Prop} (N : News h₀ L s.heap nw) (hq : (l, listOf vs.toArray k) ∈ nw) (hi : IntsAre vs ns)
    (h : Q (.bool (ns.any (· == x))) s) : wpAny (model prog w) A (compareOp .In (.int x t) (.ref l)) Q E s := in_list_ints ⟨_, (N _ hq).1, rfl, k, rfl⟩ hi h
theorem r_notin {l : Addr} {vs : List Value} {ns : List Int} {x : Int} {t : Tok} {k : Nat} {nw : List (Addr × Obj)} {Q : Value → Shared → Prop} (N : News h₀ L s.heap nw) (hq : (l, listOf vs.toArray k) ∈ nw) (hi : IntsAre vs ns)
    (h : Q (.bool (!(ns.any (· == x)))) s) : wpAny (model prog w) A (compareOp .NotIn (.int x t) (.ref l)) Q E s := notin_list_ints ⟨_, (N _ hq).1, rfl, k, rfl⟩ hi h
noncomputable def JoinB (h₀ : Heap) (L : Addr) (m : Str → Option Value) (nw : List (Addr × Obj)) (b : Bool) (s₁ : Shared) (y : Value) (s₂ : Shared) : Prop :=
  ∃ (h' : Heap) (tk : Nat), y = .bool b ∧ s₂ = { s₁ with heap := h', toks := tk } ∧ Fr h₀ L h' m ∧ News h₀ L h' nw
theorem JoinB.intro {nw nw' : List (Addr × Obj)} {b b' : Bool} {s₁ : Shared} {h' : Heap} {tk : Nat} (F : Fr h₀ L h' m) (N : News h₀ L h' nw') (hs : ∀ p ∈ nw, p ∈ nw') (ho : Ob (b' = b)) : JoinB h₀ L m nw b s₁ (.bool b') { s₁ with heap := h', toks := tk } :=
  ⟨h', tk, by rw [show b' = b from ho], rfl, F, fun p hp => N p (hs p hp)⟩
theorem r_joinb {t : Sem Value} {Q : Value → Shared → Prop} {nw : List (Addr × Obj)} (b : Bool) (_F : Fr h₀ L s.heap m) (_N : News h₀ L s.heap nw) (h : wpAny (model prog w) A t (JoinB h₀ L m nw b s) E s)
    (h2 : ∀ h' tk, Fr h₀ L h' m → News h₀ L h' nw → Q (.bool b) { s with heap := h', toks := tk }) : wpAny (model prog w) A t Q E s :=
  wpAny_mono h (fun _ _ ⟨h', tk, e1, e2, F', N'⟩ => e1 ▸ e2 ▸ h2 h' tk F' N') fun _ _ e => e
end
end Mine
end
section
open PySem PySem.W PyProof.Rows PySem.Calls PyProof.V PySem.Spec PyProof
open PyProof.Rows.LCg (NsObj lst)
set_option maxRecDepth 100000
namespace Mine
section
variable {prog : Program} {w : World} {A : Around} {E : Value → Shared → Prop} {s : Shared} {h₀ : Heap} {L : Addr} {m : Str → Option Value} {env : Env}
theorem Assign_PTF {ct elt iter : PySem.Expr} {x x₂ y : Str} {px px₂ tp py : Pos} {tk0} {scope : Scope} {cl : List (Str × Addr)} {pos spos : Pos} {Q : Flow → Shared → Prop} (_F₀ : Fr h₀ L s.heap m) (hLe : env.locals = L)
    (hsw : swapsWith (.ListComp elt [⟨.Tuple [.Name x px, .Name x₂ px₂] tk0 tp, iter, [ct], 0⟩] scope pos) (some (.Name y py)) spos.line env = pure true)
    (hclos : closureFor scope env = pure cl) (hcell : ∀ z ∈ scope.names, z.2 ≠ .cell) (hkind : scope.kind = .function)
    (hnames : ∀ z ∈ scope.names, z.2 = .local → scope.names.lookup z.1 = some .local) (hx : scope.names.lookup x = some .local) (hx₂ : scope.names.lookup x₂ = some .local) (hxx : x ≠ x₂)
    (hy : env.kindOf y = some .local) (hp : (env.scope.kind == .class || (env.scope.kind == .module && env.locals != env.globals)) = false)
    (h : wpAny (model prog w) A (eval iter env) (SrcPT prog w A h₀ L m env ct elt x x₂ y scope cl Q) E s)
    (hs : ∀ x, foldedSetIterable iter env x = pure x := by intro _; rfl) :
    wpAny (model prog w) A (exec (.Assign [.Name y py] (.ListComp elt [⟨.Tuple [.Name x px, .Name x₂ px₂] tk0 tp, iter, [ct], 0⟩] scope pos) spos) env) Q E s :=
  Assign_PT hLe hsw hclos hcell hkind hnames hx hx₂ hxx hy hp h hs
theorem r_pt {ct elt : PySem.Expr} {x x₂ y : Str} {scope : Scope} {cl : List (Str × Addr)} {Q : Flow → Shared → Prop} {q : Addr} {kk : Nat} {nw : List (Addr × Obj)} (tl : List TT) (g : TT → Bool) (f : TT → Int)
    (hh : A.handled = none) (F : Fr h₀ L s.heap m) (N : News h₀ L s.heap nw) (hq : (q, listOf (tl.map TT.r).toArray kk) ∈ nw) (hsz : tl.length ≤ sizeLine) (htl : ∀ z ∈ tl, z.e ∈ nw)
    (test : ∀ (z : TT) ys I oI C oC D m₂ (s₁ : Shared) (E' : Value → Shared → Prop), (∃ h tk, s₁ = { s with heap := h, toks := tk }) → z ∈ tl → NsObj oC m₂ → m₂ x = some (.int z.a z.t) → m₂ x₂ = some (.int z.b z.u) → Fr h₀ L s₁.heap m → News h₀ L s₁.heap ((I, oI) :: (C, oC) :: (D, lst ys) :: nw) →
      wpAny (model prog w) A (isTrue ct (compEnvC scope cl C env) (eval ct (compEnvC scope cl C env))) (CTEnd h₀ L m ((I, oI) :: (C, oC) :: (D, lst ys) :: nw) (g z) s₁) E' s₁)
    (elem : ∀ (z : TT) ys I oI C oC D m₂ (s₁ : Shared) (E' : Value → Shared → Prop), (∃ h tk, s₁ = { s with heap := h, toks := tk }) → z ∈ tl → g z = true → NsObj oC m₂ → m₂ x = some (.int z.a z.t) → m₂ x₂ = some (.int z.b z.u) → Fr h₀ L s₁.heap m → News h₀ L s₁.heap ((I, oI) :: (C, oC) :: (D, lst ys) :: nw) →
      wpAny (model prog w) A (eval elt (compEnvC scope cl C env)) (CIEnd h₀ L m ((I, oI) :: (C, oC) :: (D, lst ys) :: nw) (f z) s₁) E' s₁)
    (ret : ∀ D ys h tk, IntsAre ys ((tl.filter g).map f) → (∀ p ∈ nw, p.1 ≠ D) → Fr h₀ L h (fun z => if z = y then some (.ref D) else m z) → News h₀ L h ((D, listOf ys.toArray ys.length) :: nw) → Q .next { s with heap := h, toks := tk }) :
    SrcPT prog w A h₀ L m env ct elt x x₂ y scope cl Q (.ref q) s :=
  ⟨tl, g, f, q, kk, nw, rfl, hh, F, N, hq, hsz, htl, test, elem, ret⟩
end
end Mine
end
section
open PySem PySem.W PyProof.Rows
namespace Mine
/-! the games won by the first in order over the others -/
theorem LgR.nonneg {row wins : List Int} {left : List Nat} {ts : List (Int × Int)} (h : LgR row wins left ts) : ∀ q ∈ ts, 0 ≤ q.1 ∧ 0 ≤ q.2 := by
  induction h with
  | start => intro q hq; cases hq
  | @step wins left left1 ts FI L5 h hp hs h0 h5 hF g0 g1 ih =>
    have hF0 : 0 ≤ FI := by
      rw [← hF, List.getLastD_eq_getLast?]
      cases e : (left1.map fun (x : Nat) => (x : Int)).getLast? with
      | none => exact Int.le_refl 0
      | some z =>
        obtain ⟨x, _, rfl⟩ := List.mem_map.mp (List.mem_of_getLast? e)
        exact Int.natCast_nonneg x
    have hL : ∀ x ∈ L5, (0 : Int) ≤ x := by
      rw [h5]
      intro x hx
      obtain ⟨y, _, rfl⟩ := List.mem_map.mp ((List.dropLast_sublist _).subset hx)
      exact Int.natCast_nonneg y
    intro q hq
    rcases List.mem_append.mp hq with hq | hq
    · rcases List.mem_append.mp hq with hq | hq
      · exact ih q hq
      · obtain ⟨x, hx, rfl⟩ := List.mem_map.mp hq
        exact ⟨hF0, hL x (List.mem_of_mem_take hx)⟩
    · obtain ⟨x, hx, rfl⟩ := List.mem_map.mp hq
      exact ⟨hL x (List.mem_of_mem_drop hx), hF0⟩
theorem any_cast {l : List Nat} {x : Int} (h : 0 ≤ x) : (l.map fun (n : Nat) => (n : Int)).any (· == x) = decide (x.toNat ∈ l) := by
  rw [Bool.eq_iff_iff, List.any_eq_true, decide_eq_true_eq]
  constructor
  · rintro ⟨z, hz, e⟩
    obtain ⟨n, hn, rfl⟩ := List.mem_map.mp hz
    have e' : (n : Int) = x := by simpa using e
    rw [← e', Int.toNat_natCast]; exact hn
  · intro hm
    exact ⟨_, List.mem_map.mpr ⟨_, hm, rfl⟩, by simp [Int.toNat_of_nonneg h]⟩
noncomputable def gOut (l : List Int) (z : TT) : Bool := l.any (· == z.a) && !(l.any (· == z.b))
theorem g_out {l : List Nat} {tl : List TT} (hn : ∀ q ∈ tl.map TT.v, 0 ≤ q.1 ∧ 0 ≤ q.2) : (tl.filter (gOut (l.map fun (n : Nat) => (n : Int)))).length = outN (fun x => decide (x ∈ l)) (tl.map TT.v) := by
  unfold outN
  rw [List.countP_map, ← List.countP_eq_length_filter]
  refine List.countP_congr fun z hz => ?_
  have := hn _ (List.mem_map_of_mem hz)
  have e1 := any_cast (l := l) this.1
  have e2 := any_cast (l := l) this.2
  show gOut _ z = true ↔ _
  unfold gOut
  show (_ && !_) = true ↔ (decide (z.a.toNat ∈ l) && !decide (z.b.toNat ∈ l)) = true
  rw [show z.a = z.v.1 from rfl, show z.b = z.v.2 from rfl, e1, e2]
theorem out_nil {mm i : Nat} {row rs o : List Nat} {tl : List TT} (hm : row.length = mm) (h5 : 5 ≤ mm) (h8 : mm ≤ 8) (hb : ∀ x ∈ row, x < mm) (hp : rs.Perm row) (hs : rs.Pairwise (· ≤ ·)) (ho : o.Perm (List.range mm)) (hos : LgSorted (row.map cI) o)
    (hd : LgDone (row.map cI) (tl.map TT.v)) (hE : Enough mm rs) (hi : i < mm) :
    (tl.filter (gOut ((o.map fun (n : Nat) => (n : Int)).take ((1 : Int) + (i : Int)).toNat)) = []) ↔ (rs.take (i + 1)).sum ≤ i * (i + 1) / 2 := by
  obtain ⟨h1, h2⟩ := landau hm h5 h8 hb hp hs hd
  obtain ⟨wins, hR⟩ := h2 (h1.mpr hE)
  have e : ((1 : Int) + (i : Int)).toNat = i + 1 := by lia
  rw [e, ← List.map_take, ← List.length_eq_zero_iff, g_out hR.nonneg, order_sum hp hs (hm ▸ ho) hos hR (show i + 1 ≤ row.length by lia), tri_need]
  lia
theorem tight_out {ww mm i : Nat} {row rs o : List Nat} {tl : List TT} (H : Slots ww mm (fun j => (rs.take (j + 1)).sum) (fun j => j * (j + 1) / 2)) (hm : row.length = mm) (h5 : 5 ≤ mm) (h8 : mm ≤ 8) (hb : ∀ x ∈ row, x < mm) (hp : rs.Perm row) (hs : rs.Pairwise (· ≤ ·)) (ho : o.Perm (List.range mm)) (hos : LgSorted (row.map cI) o)
    (hd : LgDone (row.map cI) (tl.map TT.v)) (hE : Enough mm rs) (hi : i < mm) (f : TT → Int) :
    decide ((tl.filter (gOut ((o.map fun (n : Nat) => (n : Int)).take ((1 : Int) + (i : Int)).toNat))).map f = []) =
      (Builtin.bitAnd (((tightN mm ww (fun j => (rs.take (j + 1)).sum) (fun j => j * (j + 1) / 2) : Nat) : Int).fdiv (2 ^ (((mm : Int) - ((1 : Int) + (i : Int)) + 1) * (ww : Int) - 1).toNat)) 1 == 1) := by
  rw [Bool.eq_iff_iff, decide_eq_true_eq, List.map_eq_nil_iff, beq_iff_eq, out_nil hm h5 h8 hb hp hs ho hos hd hE hi]
  exact (tight_bit H hi).symm
theorem od_n {mm : Nat} : ((mm : Int) - 0).toNat = (List.range mm).length := by simp
theorem od_len1 {wins : List Int} {left : List Nat} {mm : Nat} {tl8 : List TT} (hv : tl8.map TT.v = (List.range ((mm : Int) - 0).toNat).map fun i => (wins.getD (left.getD i 0) 0, ((left.getD i 0 : Nat) : Int))) (h5 : 5 ≤ mm) : 1 ≤ tl8.length := by
  rw [lg_vl hv]; lia
/-! ledgers -/
theorem ne_front {h₀ h : Heap} {L c : Addr} {o : Obj} {v : Option Value} {T : List (Addr × Obj)} (N : News h₀ L h ((c, o) :: T)) (ho : o.data = .cell v) (hc : ∀ p ∈ T, (∃ w, p.2.data = .cell w) → p.1 ≠ c) : ∀ p ∈ T, p.1 ≠ c := fun p hp => by
  by_cases e : p.2 = o
  · exact hc p hp ⟨v, e ▸ ho⟩
  · exact apart N (List.mem_cons_of_mem _ hp) List.mem_cons_self e
theorem tts_off {c : Addr} (tl : List TT) : ∀ p ∈ tl.map TT.e, (∃ w, p.2.data = .cell w) → p.1 ≠ c := fun p hp => by
  obtain ⟨y, _, rfl⟩ := List.mem_map.mp hp
  rintro ⟨w, e⟩; cases e
theorem off_list {a c : Addr} {xs : Array Value} {k : Nat} {T : List (Addr × Obj)} (h : ∀ p ∈ T, (∃ w, p.2.data = .cell w) → p.1 ≠ c) : ∀ p ∈ (a, listOf xs k) :: T, (∃ w, p.2.data = .cell w) → p.1 ≠ c :=
  List.forall_mem_cons.mpr ⟨(by rintro ⟨w, e⟩; cases e), h⟩
theorem off_cell {a c : Addr} {o : Obj} {T : List (Addr × Obj)} (hn : (a : Nat) ≠ c) (h : ∀ p ∈ T, (∃ w, p.2.data = .cell w) → p.1 ≠ c) : ∀ p ∈ (a, o) :: T, (∃ w, p.2.data = .cell w) → p.1 ≠ c :=
  List.forall_mem_cons.mpr ⟨fun _ => hn, h⟩
theorem nb_order {h₀ h : Heap} {L : Addr} {d6 x y z b kc r oc rc mc : Addr × Obj} {nw8 T : List (Addr × Obj)} (N : News h₀ L h (d6 :: x :: y :: nw8)) (hk : ∀ p ∈ z :: b :: kc :: r :: oc :: rc :: mc :: T, p ∈ nw8) :
    News h₀ L h (oc :: d6 :: b :: kc :: r :: rc :: mc :: T) := fun p hp => N p (by
  have up : ∀ q ∈ z :: b :: kc :: r :: oc :: rc :: mc :: T, q ∈ d6 :: x :: y :: nw8 := fun q hq => List.mem_cons_of_mem _ (List.mem_cons_of_mem _ (List.mem_cons_of_mem _ (hk q hq)))
  rcases List.mem_cons.mp hp with rfl | hp
  · exact up _ (List.mem_cons_of_mem _ (List.mem_cons_of_mem _ (List.mem_cons_of_mem _ (List.mem_cons_of_mem _ List.mem_cons_self))))
  rcases List.mem_cons.mp hp with rfl | hp
  · exact List.mem_cons_self
  rcases List.mem_cons.mp hp with rfl | hp
  · exact up _ (List.mem_cons_of_mem _ List.mem_cons_self)
  rcases List.mem_cons.mp hp with rfl | hp
  · exact up _ (List.mem_cons_of_mem _ (List.mem_cons_of_mem _ List.mem_cons_self))
  rcases List.mem_cons.mp hp with rfl | hp
  · exact up _ (List.mem_cons_of_mem _ (List.mem_cons_of_mem _ (List.mem_cons_of_mem _ List.mem_cons_self)))
  exact up _ (List.mem_cons_of_mem _ (List.mem_cons_of_mem _ (List.mem_cons_of_mem _ (List.mem_cons_of_mem _ (List.mem_cons_of_mem _ hp))))))
theorem nb_k {h₀ h : Heap} {L : Addr} {d6 b kc r oc rc mc : Addr × Obj} {T : List (Addr × Obj)} (N : News h₀ L h (oc :: d6 :: b :: kc :: r :: rc :: mc :: T)) : News h₀ L h (kc :: oc :: d6 :: b :: rc :: mc :: T) := fun p hp => N p (by
  rcases List.mem_cons.mp hp with rfl | hp
  · exact List.mem_cons_of_mem _ (List.mem_cons_of_mem _ (List.mem_cons_of_mem _ List.mem_cons_self))
  rcases List.mem_cons.mp hp with rfl | hp
  · exact List.mem_cons_self
  rcases List.mem_cons.mp hp with rfl | hp
  · exact List.mem_cons_of_mem _ List.mem_cons_self
  rcases List.mem_cons.mp hp with rfl | hp
  · exact List.mem_cons_of_mem _ (List.mem_cons_of_mem _ List.mem_cons_self)
  exact List.mem_cons_of_mem _ (List.mem_cons_of_mem _ (List.mem_cons_of_mem _ (List.mem_cons_of_mem _ (List.mem_cons_of_mem _ hp)))))
end Mine
end
section
open PySem PySem.W PyProof.Rows
namespace Mine
/-! the side claims of the law's own body -/
theorem sm_le {n : Nat} (h : n ≤ 100000) : Sm (n : Int) := sm_nat (n := 17) (Nat.lt_of_le_of_lt h (by decide)) (by decide)
theorem mw_le {i mm ww : Nat} (hi : i ≤ mm) (h8 : mm ≤ 8) (hL : ww ≤ 1208) : i * ww ≤ 30000 := Nat.le_trans (Nat.mul_le_mul (Nat.le_trans hi h8) hL) (by decide)
theorem two_sm {ww : Nat} (hL : ww ≤ 1208) : Sm (2 ^ ((ww : Nat) : Int).toNat) := by rw [Int.toNat_natCast]; exact sm_pow2 (by lia)
theorem ob_i {i m : Nat} (hi : i < m) (h8 : m ≤ 8) : Sm ((0 : Int) + (i : Int)) ∧ Sm ((0 : Int) + (i : Int) + 1) := by
  have e1 : (0 : Int) + (i : Int) = ((i : Nat) : Int) := by lia
  have e2 : (i : Int) + 1 = ((i + 1 : Nat) : Int) := by lia
  rw [e1, e2]
  exact ⟨sm_le (by lia), sm_le (by lia)⟩
theorem ob_nd {ww mm i : Nat} {row rs : List Nat} {c : WS} (H : WP ww row rs i c) (hi : i < mm) (h8 : mm ≤ 8) (h9 : 9 ≤ ww) (hL : ww ≤ 1208) : Sm c.n ∧ Sm (2 ^ ((ww : Nat) : Int).toNat) := by
  refine ⟨?_, two_sm hL⟩
  rw [H.n]
  refine sm_any (WN_lt i fun j hj => ?_) (mw_le (Nat.le_of_lt hi) h8 hL)
  have h1 : j * (j + 1) ≤ 7 * 8 := Nat.mul_le_mul (by lia) (by lia)
  have h2 : 2 ^ 9 ≤ 2 ^ ww := Nat.pow_le_pow_right (by decide) h9
  lia
theorem ob_s {ww mm i : Nat} {row rs : List Nat} {c : WS} (H : WP ww row rs i c) (hi : i < mm) (h8 : mm ≤ 8) (h9 : 9 ≤ ww) (hL : ww ≤ 1208) (hrl : row.length = mm) (hrsl : rs.length = row.length) (hrb : ∀ x ∈ row, x < mm) (hp : rs.Perm row) : Sm c.s ∧ Sm (2 ^ ((ww : Nat) : Int).toNat) := by
  refine ⟨?_, two_sm hL⟩
  rw [H.s]
  refine sm_any (WN_lt i fun j hj => ?_) (mw_le (Nat.le_of_lt hi) h8 hL)
  have h2 : 2 ^ 9 ≤ 2 ^ ww := Nat.pow_le_pow_right (by decide) h9
  have := sum_lt h8 (l := rs.take (j + 1)) (by rw [List.length_take]; lia) fun x hx => hrb x (hp.mem_iff.mp (List.mem_of_mem_take hx))
  lia
theorem take_word {ww mm i : Nat} {l : List Nat} (hi : i < mm) (h8 : mm ≤ 8) (h9 : 9 ≤ ww) (hL : ww ≤ 1208) (hb : ∀ x ∈ l, x < mm) : Sm ((wordN (2 ^ ww) (l.take i) : Nat) : Int) := by
  have h := word_lt (l := l.take i) h9 h8 fun x hx => hb x (List.mem_of_mem_take hx)
  exact sm_any h (mw_le (mm := mm) (by rw [List.length_take]; lia) h8 hL)
theorem ob_l {ww mm i : Nat} {row rs : List Nat} {c : WS} (H : WP ww row rs i c) (hi : i < mm) (h8 : mm ≤ 8) (h9 : 9 ≤ ww) (hL : ww ≤ 1208) (hrb : ∀ x ∈ row, x < mm) (hp : rs.Perm row) : Sm c.l ∧ Sm (2 ^ ((ww : Nat) : Int).toNat) := by
  refine ⟨?_, two_sm hL⟩
  rw [H.l]
  exact take_word hi h8 h9 hL fun x hx => hrb x (hp.mem_iff.mp hx)
theorem ob_ww {ww : Nat} (hL : ww ≤ 1208) : 0 ≤ (ww : Int) ∧ (ww : Int) ≤ 100000 := ⟨by lia, by lia⟩
theorem ob_w {ww mm i : Nat} {row rs : List Nat} {c : WS} (H : WP ww row rs i c) (hi : i < mm) (h8 : mm ≤ 8) (h9 : 9 ≤ ww) (hL : ww ≤ 1208) (hrb : ∀ x ∈ row, x < mm) : 0 ≤ (ww : Int) ∧ (ww : Int) ≤ 100000 ∧ Sm c.w := by
  refine ⟨by lia, by lia, ?_⟩
  rw [H.w]
  exact take_word hi h8 h9 hL hrb
theorem ob_idx {i : Nat} {l : List Nat} (hi : i < l.length) : 0 ≤ (0 : Int) + (i : Int) ∧ ((0 : Int) + (i : Int)).toNat < (l.map fun (n : Nat) => (n : Int)).length := by
  rw [List.length_map]; lia
theorem ob_63 {i m : Nat} (hi : i < m) (h8 : m ≤ 8) : (0 : Int) + (i : Int) < 2 ^ 63 := by
  rw [show (2 : Int) ^ 63 = 9223372036854775808 by decide]; lia
theorem ob_abs (x : Int) : Sm 2 ∧ Sm (x.fmod 1000) := by
  refine ⟨sm_le (n := 2) (by decide), ?_⟩
  rw [fmod_pos (by decide)]
  have h : x % 1000 = ((x % 1000).toNat : Int) := by lia
  rw [h]
  exact sm_le (by lia)
theorem ob_rm {rm mm ww : Nat} (h : rm ≤ mm * ww + 23) (h8 : mm ≤ 8) (hL : ww ≤ 1208) : 0 ≤ (rm : Int) ∧ (rm : Int) ≤ 100000 ∧ Sm 1 := by
  have := mw_le (Nat.le_refl mm) h8 hL
  exact ⟨by lia, by lia, sm_one⟩
theorem ob_mw {mm ww : Nat} (h8 : mm ≤ 8) (hL : ww ≤ 1208) : Sm (mm : Int) ∧ Sm (ww : Int) := ⟨sm_le (by lia), sm_le (by lia)⟩
theorem ob_m1 {mm : Nat} (h5 : 5 ≤ mm) (h8 : mm ≤ 8) : Sm (mm : Int) ∧ Sm ((mm : Int) - 1) := by
  have e : (mm : Int) - 1 = ((mm - 1 : Nat) : Int) := by lia
  rw [e]
  exact ⟨sm_le (by lia), sm_le (by lia)⟩
theorem ob_len {av : List Value} {x : Value} {row : List Nat} {mm : Nat} (h : IntsAre (av ++ [x]) (row.map fun (n : Nat) => (n : Int))) (hl : row.length = mm) (h8 : mm ≤ 8) : av.length + [x].length ≤ sizeLine := by
  have := h.length
  rw [List.length_append, List.length_map] at this
  exact due_sz (by lia)
theorem ob_len2 {dv ev : List Value} {ns : List Int} {mm : Nat} (hd : IntsAre dv ns) (he : IntsAre ev ms) (hl : (ns ++ ms).length = mm) (h8 : mm ≤ 8) : dv.length + ev.length ≤ sizeLine := by
  have := hd.length
  have := he.length
  rw [List.length_append] at hl
  exact due_sz (by lia)
theorem ob_dv {dv : List Value} {ns : List Int} {mm : Nat} (hd : IntsAre dv ns) (hl : ns.length ≤ mm) (h8 : mm ≤ 8) : ((dv.length : Nat) : Int) < 2 ^ 63 := by
  have := hd.length
  rw [show (2 : Int) ^ 63 = 9223372036854775808 by decide]; lia
theorem ob_marks {mm ww : Nat} (h8 : mm ≤ 8) (h9 : 9 ≤ ww) (hL : ww ≤ 1208) : 0 ≤ (ww : Int) - 1 ∧ (ww : Int) - 1 ≤ 100000 ∧ Sm ((everyN mm ww : Nat) : Int) :=
  ⟨by lia, by lia, sm_any (every_lt mm) (mw_le (Nat.le_refl mm) h8 hL)⟩
theorem ob_w1 {ww : Nat} (hL : ww ≤ 1208) : 0 ≤ (ww : Int) ∧ (ww : Int) ≤ 100000 ∧ Sm 1 := ⟨by lia, by lia, sm_one⟩
theorem ob_lined {mm ww : Nat} {row rs : List Nat} (h8 : mm ≤ 8) (h9 : 9 ≤ ww) (hL : ww ≤ 1208) (hl : row.length = mm) (hb : ∀ x ∈ row, x < mm) (hp : rs.Perm row) : 0 ≤ (ww : Int) ∧ (ww : Int) ≤ 100000 ∧ Sm ((wordN (2 ^ ww) rs : Nat) : Int) :=
  ⟨by lia, by lia, sm_any (word_lt h9 h8 fun x hx => hb x (hp.mem_iff.mp hx)) (mw_le (mm := mm) (by rw [hp.length_eq, hl]; exact Nat.le_refl _) h8 hL)⟩
theorem range_at {mm i : Nat} (hi : i < mm) : (List.range mm).getD i 0 = i := by
  simp [List.getD_eq_getElem?_getD, hi]
theorem ob_o1 {mm i : Nat} {row : List Nat} (hi : i < mm) : (row.map fun (n : Nat) => (n : Int)).getD ((0 : Int) + (i : Int)).toNat 0 = (row.map cI).getD ((List.range mm).getD i 0) 0 := by
  rw [range_at hi, tn_zero]
theorem ob_o2 {mm i : Nat} (hi : i < mm) : (0 : Int) + (i : Int) = (((List.range mm).getD i 0 : Nat) : Int) := by
  rw [range_at hi]; lia
theorem g_ff {l : List Int} {z : TT} (_h1 : (l.any fun x => x == z.a) = true) (h2 : (l.any fun x => x == z.b) = true) : false = gOut l z := by
  unfold gOut; rw [h2]; simp
theorem g_tt {l : List Int} {z : TT} (h1 : (l.any fun x => x == z.a) = true) (h2 : (l.any fun x => x == z.b) = false) : true = gOut l z := by
  unfold gOut; rw [h1, h2]; rfl
theorem g_f {l : List Int} {z : TT} (h1 : (l.any fun x => x == z.a) = false) : false = gOut l z := by
  unfold gOut; rw [h1]; rfl
theorem ob_k1 {mm ww i : Nat} (hi : i < mm) (h9 : 9 ≤ ww) : 0 ≤ ((mm : Int) - ((1 : Int) + (i : Int)) + 1) * (ww : Int) - 1 := by
  have e1 : (mm : Int) - ((1 : Int) + (i : Int)) + 1 = ((mm - i : Nat) : Int) := by lia
  rw [e1, ← Int.natCast_mul]
  have : 1 * 9 ≤ (mm - i) * ww := Nat.mul_le_mul (by lia) h9
  lia
theorem ob_k2 {mm ww i : Nat} (hi : i < mm) (h8 : mm ≤ 8) (hL : ww ≤ 1208) : Sm ((mm : Int) - ((1 : Int) + (i : Int)) + 1) ∧ Sm (ww : Int) := by
  have e1 : (mm : Int) - ((1 : Int) + (i : Int)) + 1 = ((mm - i : Nat) : Int) := by lia
  rw [e1]
  exact ⟨sm_le (by lia), sm_le (by lia)⟩
theorem bne_no {b : Bool} (h : (b != b) = true) : False := by cases b <;> cases h
end Mine
end
section
open PySem PySem.W PyProof.Rows
set_option maxRecDepth 100000
namespace Mine
local macro_rules | `(tactic| walk_at $s:str) => `(tactic| k_extra $s)

local macro_rules | `(tactic| k_all) => `(tactic| assumption)
local macro_rules | `(tactic| k_ne) => `(tactic| (refine neN ?_; assumption))


local macro_rules | `(tactic| walk_at "eval Name") => `(tactic| (k_here; (with_reducible show wpAny _ _ (eval (Expr.Name _ _) (compEnvC _ _ _ _)) _ _ _); k_dflt (refine' lcf_cell ?N ?c ?m ?d ?_ ?a ?b; (case a => rfl); (case b => rfl); (case N => k_asm); (case c => rfl); (case m => kcj_m); (case d => assumption); k_whole)))


local macro_rules | `(tactic| walk_at "eval Name") => `(tactic| (k_here; (with_reducible show wpAny _ _ (eval (PySem.Expr.Name _ _) (envOfC _ _ _ _ _)) _ _ _); k_dflt (refine' nameX_C ?xN ?xc ?xm ?xd ?_ ?xa ?xb; (case xa => rfl); (case xb => rfl); (case xN => k_asm); (case xc => rfl); (case xm => kcj_m); (case xd => assumption); k_whole)))



set_option maxHeartbeats 8000000 in
theorem w_law : PySem.Challenge.rw_we0001_02.Holds := hd (by
  k_with_none
  k_with "binaryOp LShift int int" => (k_here; with_reducible refine r_lsh ?_ ?_)
  k_with "inplaceOp LShift int int" => (k_here; with_reducible refine r_ilsh ?_ ?_)
  k_with "binaryOp Mult int int" => (k_here; with_reducible refine r_mul ?_ ?_)
  k_with "binaryOp FloorDiv int int" => (k_here; with_reducible refine r_fdiv ?_ ?_)
  k_with "binaryOp Mod int int" => (k_here; with_reducible refine r_mod ?_ ?_)
  k_with "binaryOp RShift int int" => (k_here; with_reducible refine r_rsh ?_ ?_)
  k_with "inplaceOp RShift int int" => (k_here; with_reducible refine r_irsh ?_ ?_)
  k_with "call builtin:divmod" => (k_here; k_dflt (refine' r_divmod ?k1 ?k2 ?_ ?_; (case k1 => k_asm); (case k2 => k_asm)); intro p9 h9 F9 N9 l9; (try k_lt l9))
  k_with "call builtin:list.append" => (k_here; k_dflt (refine' r_append ?k1 ?k2 ?k3 ?_ ?_; (case k1 => k_asm); (case k2 => k_asm); (case k3 => k_upd)); intro h' F' N'; (try k_sweep))
  k_with "call ref" => (k_here; k_extra "mycall")
  k_with "exec For Name Name cons nil" => (k_here; k_dflt (refine For_G ?_ ?hs; (case hs => intro _; rfl)))
  k_with "exec For Name Call cons nil" => (k_here; k_dflt (refine For_G ?_ ?hs; (case hs => intro _; rfl)))
  k_with "exec For Name Subscript cons nil" => (k_here; k_dflt (refine For_G ?_ ?hs; (case hs => intro _; rfl)))
  k_with "exec For Name BinOp cons nil" => (k_here; k_dflt (refine For_G ?_ ?hs; (case hs => intro _; rfl)))
  k_with "exec For Tuple Name cons nil" => (k_here; k_dflt (refine For_G ?_ ?hs; (case hs => intro _; rfl)))
  k_with "pyIter ref" => (k_here; first | k_extra "loop" | refine Ob.out ?_)
  k_with "LtPost" => (dsimp only [LtPost])
  k_with "LtEnd" => (k_extra "ltend")
  k_with "binaryOp Add ref ref" => (k_here; k_dflt (refine' r_addl ?k1 ?k2 ?k3 ?k4 ?_ ?_; (case k1 => k_asm); (case k2 => k_asm); (case k3 => kcj_m); (case k4 => kcj_m)); intro D9 h9 F9 N9 l9; (try k_lt l9))
  k_with "assign Tuple" => (k_here; k_dflt (refine' r_unpair rfl ?k1 ?k2 ?k3 ?_; (case k1 => k_asm); (case k2 => k_asm); (case k3 => kcj_m)); intro h' F' N')
  k_with "eval ListComp" => (k_here; (with_reducible show wpAny _ _ (eval (Expr.ListComp _ [⟨Expr.Tuple _ _ _, _, _, _⟩] _ _) _) _ _ _); k_dflt (refine LCp.ListComp_P (F₀ := by k_asm) (by with_unfolding_all rfl) (by decide) (by rfl) (by decide) (by rfl) (by rfl) (by decide) ?_))
  k_with "eval ListComp" => (k_here; (with_reducible show wpAny _ _ (eval (Expr.ListComp _ [⟨Expr.Name _ _, _, _, _⟩] _ _) _) _ _ _); k_dflt (refine LCg.ListComp_U (F₀ := by k_asm) (by with_unfolding_all rfl) (by decide) (by rfl) (by decide) (by rfl) ?_))
  k_with "eval ListComp" => (k_here; (with_reducible show wpAny _ _ (eval (Expr.ListComp _ [⟨Expr.Name _ _, _, [_], _⟩] _ _) _) _ _ _); k_dflt (refine LCt.ListComp_T (F₀ := by k_asm) (by with_unfolding_all rfl) (by decide) (by rfl) (by decide) (by rfl) ?_))
  k_with "CompSrcT" => (k_extra "compsrct")
  k_with "CTEnd" => (k_dflt (refine' CTEnd.intro ?e1 ?e2 ?e3 ?_; (case e1 => k_asm); (case e2 => k_asm); (case e3 => kcj_in)))
  k_with "CompSrc" => (k_extra "compsrc")
  k_with "CIEnd" => (k_dflt (refine' CIEnd.intro ?e1 ?e2 ?e3 ?_; (case e1 => k_asm); (case e2 => k_asm); (case e3 => kcj_in)))
  k_with "SrcLP" => (k_extra "srclp")
  k_with "CPEnd" => (k_dflt (refine' CPEnd.intro ?e1 ?e2 ?e3 ?_ ?_; (case e1 => k_asm); (case e2 => k_asm); (case e3 => exact ktn_ltOf (by assumption))))
  k_with "call builtin:sorted" => (k_here; k_extra "sorted")
  k_with "call type:list" => (k_here; k_dflt (first
    | ((refine' kup_listOf ?lF ?lN ?lb rfl ?_ ?lz; (case lF => k_asm); (case lN => k_asm); (case lb => kcj_m); (case lz => k_extra "lsize")); intro D9 c9 h9 F9 N9 l9; (try k_lt l9))
    | ((rename IsRange _ _ _ _ _ _ _ _ => rgX); (refine' kll_range rfl ?lF ?lN rgX ?ls ?ln ?lz ?_; (case lF => k_asm); (case lN => k_asm); (case ls => exact small_one (by omega) (by omega) (by omega) (by omega)); (case ln => exact rangeSize_nat _ _); (case lz => k_extra "lrsize")); k_extra "lrange")))
  k_with "compareOp NotEq ref ref" => (k_here; first | k_dflt (refine' r_ne_nil ?zN ?za ?zb ?zi ?zu ?_; (case zN => k_asm); (case za => kcj_m); (case zb => kcj_m); (case zi => assumption); (case zu => cb_units)) | refine Ob.out ?_)
  k_with "exec While Compare cons nil" => (k_here; first | k_extra "while" | refine Ob.out ?_)
  k_with "exec Assign cons ListComp" => (k_here; (with_reducible show wpAny _ _ (exec (Stmt.Assign [PySem.Expr.Name _ _] (PySem.Expr.ListComp _ [⟨PySem.Expr.Tuple _ _ _, _, _, _⟩] _ _) _) _) _ _ _); first | k_dflt (refine LCp.Assign_ListComp_P (F₀ := by k_asm) (by rfl) (by with_unfolding_all rfl) (by with_unfolding_all rfl) (by decide) (by rfl) (by decide) (by rfl) (by rfl) (by decide) (by rfl) (by rfl) ?_) | refine Ob.out ?_)
  k_with "call builtin:list.pop" => (k_here; first | k_extra "pop" | refine Ob.out ?_)
  k_with "subscriptTail Name Slice ref ref" => (k_here; first
    | (k_dflt (refine' r_upto ?gF ?gN ?gm ?gi ?g0 ?gz ?_ ?gs ?gt; (case gF => k_asm); (case gN => k_asm); (case gm => kcj_m); (case gi => k_extra "slicei"); (case g0 => k_extra "slice0"); (case gz => k_extra "slicez"); (case gs => with_unfolding_all rfl); (case gt => kmk_pure)); k_extra "slicek")
    | (k_dflt (refine' r_from ?gF ?gN ?gm ?gi ?g0 ?gz ?_ ?gs ?gt; (case gF => k_asm); (case gN => k_asm); (case gm => kcj_m); (case gi => k_extra "slicei"); (case g0 => k_extra "slice0"); (case gz => k_extra "slicez"); (case gs => with_unfolding_all rfl); (case gt => kmk_pure)); k_extra "slicek")
    | refine Ob.out ?_)
  k_with "WtPost" => (dsimp only [WtPost])
  k_with "WtEnd" => (k_extra "wtend")
  k_with "subscriptTail Name Name ref int" => (k_here; k_dflt (refine' r_item ?k1 ?k2 ?k3 ?_ ?_ ?_; (case k1 => k_asm); (case k2 => kcj_m); (case k3 => assumption)); intro t9)
  k_with "subscriptTail Name Constant ref int" => (k_here; k_dflt (refine' r_item ?k1 ?k2 ?k3 ?_ ?_ ?_; (case k1 => k_asm); (case k2 => kcj_m); (case k3 => assumption)); intro t9)
  k_with "call builtin:len" => (k_here; k_dflt (refine' r_len ?k1 ?k2 ?_ ?_; (case k1 => k_asm); (case k2 => kcj_m)))
  k_with "eval IfExp" => (k_here; first | k_extra "ifexp" | refine Ob.out ?_)
  k_with "JoinEnd" => (k_dflt (refine' JoinEnd.intro ?e1 ?e2 ?e3 ?e4 ?e6 ?e7 ?_; (case e1 => k_asm); (case e2 => k_asm); (case e3 => kcj_m); (case e4 => kcj_in); (case e6 => first | assumption | exact .cons _ _ .nil); (case e7 => first | rfl | k_extra "joinlen")))
  k_with "call builtin:sorted" => (k_here; first | k_extra "sorted" | refine Ob.out ?_)
  k_with "storeName" => (k_here; k_extra "store")
  k_with "subscriptTail Name Slice ref ref" => (k_here; first | k_extra "slice" | refine Ob.out ?_)
  k_with "subscriptTail List cons Slice ref ref" => (k_here; first | k_extra "slice2" | refine Ob.out ?_)
  k_with "call builtin:sum" => (k_here; first | (k_dflt (refine' r_sum ?sh ?sF ?sN ?sq ?si ?_; (case sh => with_unfolding_all rfl); (case sF => k_asm); (case sN => k_asm); (case sq => kcj_m); (case si => assumption)); intro h' tk' t' F' N') | refine Ob.out ?_)
  k_with "exec Assign cons ListComp" => (k_here; (with_reducible show wpAny _ _ (exec (Stmt.Assign [PySem.Expr.Name _ _] (PySem.Expr.ListComp _ [⟨PySem.Expr.Name _ _, _, [], _⟩] _ _) _) _) _ _ _); first | k_dflt (refine LCg.Assign_ListComp_U (F₀ := by k_asm) (by rfl) (by with_unfolding_all rfl) (by with_unfolding_all rfl) (by decide) (by rfl) (by decide) (by rfl) (by rfl) (by rfl) ?_) | refine Ob.out ?_)
  k_with "binaryOp Pow int int" => (k_here; with_reducible refine r_pow2 ?_ ?_)
  k_with "call ref" => (k_here; first | k_extra "mycall" | refine Ob.out ?_)
  k_with "eval BoolOp" => (k_here; k_extra "boolop")
  k_with "exec Assign cons ListComp" => (k_here; (with_reducible show wpAny _ _ (exec (Stmt.Assign [PySem.Expr.Name _ _] (PySem.Expr.ListComp _ [⟨PySem.Expr.Tuple _ _ _, _, [], _⟩] _ _) _) _) _ _ _); first | k_dflt (refine wpAny_Assign_Name ?_ ?hs; (case hs => with_unfolding_all rfl)) | refine Ob.out ?_)
  k_with "exec Assign cons ListComp" => (k_here; (with_reducible show wpAny _ _ (exec (Stmt.Assign [PySem.Expr.Name _ _] (PySem.Expr.ListComp _ [⟨PySem.Expr.Tuple _ _ _, _, [_], _⟩] _ _) _) _) _ _ _); first | k_dflt (refine Assign_PTF (by k_asm) (by rfl) (by with_unfolding_all rfl) (by with_unfolding_all rfl) (by decide) (by rfl) (by decide) (by rfl) (by rfl) (by decide) (by rfl) (by rfl) ?_) | refine Ob.out ?_)
  k_with "SrcPT" => (k_here; first | k_extra "srcpt" | refine Ob.out ?_)
  k_with "compareOp In int ref" => (k_here; first | k_dflt (refine' r_in ?zN ?za ?zi ?_; (case zN => k_asm); (case za => kcj_m); (case zi => assumption)) | refine Ob.out ?_)
  k_with "compareOp NotIn int ref" => (k_here; first | k_dflt (refine' r_notin ?zN ?za ?zi ?_; (case zN => k_asm); (case za => kcj_m); (case zi => assumption)) | refine Ob.out ?_)
  k_with "compareOp Eq ref ref" => (k_here; first | k_extra "eqnil" | refine Ob.out ?_)
  k_with "JoinB" => (k_here; first | k_dflt (refine' JoinB.intro ?e1 ?e2 ?e3 ?_; (case e1 => k_asm); (case e2 => k_asm); (case e3 => kcj_in)) | refine Ob.out ?_)
  k_with "compareOp NotEq ref ref" => (k_here; first | k_extra "nepairs" | refine Ob.out ?_)
  k_go0
  rename IntsAre _ _ => hI0
  obtain ⟨mm, hmm, hm5, hm8⟩ := many_of hI0
  (all_goals try k_fold)
  (iterate 4 (rename (_ = Data.cell (bindC _ _ _ _)) => dX; (obtain ⟨vX, hX⟩ : ∃ v, _ = Data.cell v := ⟨_, dX⟩); clear dX))
  (try (rename CellsAre _ _ => dX; clear dX))
  (try (rename Dflts _ _ _ _ => dX; clear dX))
  (try (rename Heap.CodeRec _ _ _ => dX; clear dX))
  k_with "mycall" => k_dflt (first | (refine' c_isub _ _ _ _ _ _ _ _ _ _ _ _ _ _ _ _ _ _ _ _ _ _ _ _ _ _ ?k1 ?k2 ?k3 ?k4 ?k5 ?kK ?kd ?ku ?_; (case k1 => k_asm); (case k2 => k_asm); (case k3 => k_asm); (case k4 => k_asm); (case k5 => k_asm); (case kK => exact rfl); (case kd => first | decide | cb_room); (case ku => first | decide | cb_units); intro t9 h9 tk9 F9 N9) | (refine' c_iadd _ _ _ _ _ _ _ _ _ _ _ _ _ _ _ _ _ _ _ _ _ _ _ _ _ _ ?k1 ?k2 ?k3 ?k4 ?k5 ?kK ?kd ?ku ?_; (case k1 => k_asm); (case k2 => k_asm); (case k3 => k_asm); (case k4 => k_asm); (case k5 => k_asm); (case kK => exact rfl); (case kd => first | decide | cb_room); (case ku => first | decide | cb_units); intro t9 h9 tk9 F9 N9) | (refine' c_iand _ _ _ _ _ _ _ _ _ _ _ _ _ _ _ _ _ _ _ _ _ _ _ _ _ _ ?k1 ?k2 ?k3 ?k4 ?k5 ?kK ?kd ?ku ?_; (case k1 => k_asm); (case k2 => k_asm); (case k3 => k_asm); (case k4 => k_asm); (case k5 => k_asm); (case kK => exact rfl); (case kd => first | decide | cb_room); (case ku => first | decide | cb_units); intro t9 h9 tk9 F9 N9) | (refine' c_ixor _ _ _ _ _ _ _ _ _ _ _ _ _ _ _ _ _ _ _ _ _ _ _ _ _ _ ?k1 ?k2 ?k3 ?k4 ?k5 ?kK ?kd ?ku ?_; (case k1 => k_asm); (case k2 => k_asm); (case k3 => k_asm); (case k4 => k_asm); (case k5 => k_asm); (case kK => exact rfl); (case kd => first | decide | cb_room); (case ku => first | decide | cb_units); intro t9 h9 tk9 F9 N9) | (refine' c_ilshift _ _ _ _ _ _ _ _ _ ?_ _ _ _ _ _ _ _ _ _ _ _ _ _ _ _ _ _ ?k1 ?k2 ?k3 ?k4 ?k5 ?kK ?kd ?ku ?_; (case k1 => k_asm); (case k2 => k_asm); (case k3 => k_asm); (case k4 => k_asm); (case k5 => k_asm); (case kK => exact rfl); (case kd => first | decide | cb_room); (case ku => first | decide | cb_units); rotate_left; intro t9 h9 tk9 F9 N9))
  k_with "store" => ((with_reducible show wpAny _ _ (storeName _ (Str.ofString "many") _) _ _ _); rw [hmm])
  k_with "slice" => ((with_reducible show wpAny _ _ (subscriptTail (PySem.Expr.Name (Str.ofString "script") _) _ _ _) _ _ _); k_dflt (refine' kmk_slice_ints ?gF ?gN ?gl IsPart.none (IsPart.int _ _) hI0 (kmk_upto hI0 (Int.natCast_nonneg _)) rfl ?_ ?gs ?gt ?gz; (case gF => k_asm); (case gN => k_asm); (case gl => kmk_list); (case gs => with_unfolding_all rfl); (case gt => kmk_pure); (case gz => kmk_size)); intro D1 dv h1 F' N' l1 hdv0 _ _; (try k_lt l1); obtain ⟨dr, hdv, hdl⟩ := drawn_of hdv0 hm8; clear hdv0)
  k_with "store" => ((with_reducible show wpAny _ _ (storeName _ (Str.ofString "games") _) _ _ _); rw [games_of hm5])
  k_with "store" => ((with_reducible show wpAny _ _ (storeName _ (Str.ofString "wide") _) _ _ _); obtain ⟨ww, hww, hw9, hwL⟩ := wide_of dr.sum; rw [hww])
  k_with "store" => ((with_reducible show wpAny _ _ (storeName _ (Str.ofString "room") _) _ _ _); obtain ⟨rm, hrm, hrm1, hrm2⟩ := room_of mm ww dr.sum; rw [hrm])
  k_with "store" => ((with_reducible show wpAny _ _ (storeName _ (Str.ofString "common") _) _ _ _); obtain ⟨cm, hcm, hcm1, hcm2⟩ := common_of (if dr.sum < 0 then -dr.sum else dr.sum) hm8 hwL hm5 hw9 hrm1 hrm2; rw [hcm]; replace hcm1 := Ob.mk hcm1; replace hcm2 := Ob.mk hcm2)
  k_with "slice" => ((with_reducible show wpAny _ _ (subscriptTail (PySem.Expr.Name (Str.ofString "wins") _) (PySem.Expr.Slice none _ _ _) _ _) _ _ _); (try dsimp only); k_dflt (refine' r_slice (s := ⟨_, _, _, _, _⟩) ?gF ?gN ?gm IsPart.none (IsPart.int _ _) hwn (kmk_upto_neg hwn (by decide)) ?gz ?_ ?gs ?gt; (case gF => k_asm); (case gN => k_asm); (case gm => kcj_m); (case gz => exact due_sz (by omega)); (case gs => with_unfolding_all rfl); (case gt => kmk_pure)); intro D4 av h4 F' N' l4 hav; (try k_lt l4))
  k_with "slice" => ((with_reducible show wpAny _ _ (subscriptTail (PySem.Expr.Name (Str.ofString "wins") _) (PySem.Expr.Slice (some _) none _ _) _ _) _ _ _); (try dsimp only); k_dflt (refine' r_slice (s := ⟨_, _, _, _, _⟩) ?gF ?gN ?gm (IsPart.int _ _) IsPart.none hwn (kmk_from_neg hwn (by decide)) ?gz ?_ ?gs ?gt; (case gF => k_asm); (case gN => k_asm); (case gm => kcj_m); (case gz => exact due_sz (by omega)); (case gs => with_unfolding_all rfl); (case gt => kmk_pure)); intro D4' bv h4' F' N' l4' hbv; (try k_lt l4'))
  k_with "ifexp" => k_dflt (refine' r_join (fun x => 0 ≤ x ∧ x < (mm : Int)) ?jF ?jN ?_ ?_; (case jF => k_asm); (case jN => k_asm); rotate_left; intro D5 xr tr k5 h5 tk5 F' N' hx5; have q8 := apart_cell N' List.mem_cons_self (List.mem_cons_of_mem _ (List.mem_cons_of_mem _ (List.mem_cons_of_mem _ (List.mem_cons_of_mem _ (List.mem_cons_of_mem _ (List.mem_cons_of_mem _ (List.mem_cons_of_mem _ (List.mem_cons_of_mem _ List.mem_cons_self)))))))) (by assumption); have q9 := apart_cell N' List.mem_cons_self (List.mem_cons_of_mem _ (List.mem_cons_of_mem _ (List.mem_cons_of_mem _ (List.mem_cons_of_mem _ (List.mem_cons_of_mem _ (List.mem_cons_of_mem _ (List.mem_cons_of_mem _ (List.mem_cons_of_mem _ (List.mem_cons_of_mem _ List.mem_cons_self))))))))) (by assumption); have q10 := apart_cell N' List.mem_cons_self (List.mem_cons_of_mem _ (List.mem_cons_of_mem _ (List.mem_cons_of_mem _ (List.mem_cons_of_mem _ (List.mem_cons_of_mem _ (List.mem_cons_of_mem _ (List.mem_cons_of_mem _ (List.mem_cons_of_mem _ (List.mem_cons_of_mem _ (List.mem_cons_of_mem _ List.mem_cons_self)))))))))) (by assumption); have q11 := apart_cell N' List.mem_cons_self (List.mem_cons_of_mem _ (List.mem_cons_of_mem _ (List.mem_cons_of_mem _ (List.mem_cons_of_mem _ (List.mem_cons_of_mem _ (List.mem_cons_of_mem _ (List.mem_cons_of_mem _ (List.mem_cons_of_mem _ (List.mem_cons_of_mem _ (List.mem_cons_of_mem _ (List.mem_cons_of_mem _ List.mem_cons_self))))))))))) (by assumption);  obtain ⟨row, hrow, hrl, hrb⟩ := row_of (t := tr) hav hwl hm5 hwb hx5; rotate_left)
  k_with "joinlen" => exact (last_ok hwl hm5 hwb).1
  k_with "sorted" => k_dflt (refine' r_sorted_ints ?sF ?sN ?sq hrow ?sz ?_; (case sF => k_asm); (case sN => k_asm); (case sq => kcj_m); (case sz => (rw [List.length_map]; omega)); intro D6 rsv rsI c6 h6 F' N' l6 hrs hrp hro; (try k_lt l6); obtain ⟨rs, hrsv, hrsp, hrss⟩ := sorted_nat hrs hrp hro; clear hrs hrp hro; have hrsl := hrsp.length_eq)
  k_with "slice" => ((with_reducible show wpAny _ _ (subscriptTail (PySem.Expr.Name (Str.ofString "rising") _) _ _ _) _ _ _); (try dsimp only); k_dflt (refine' r_slice (s := ⟨_, _, _, _, _⟩) ?gF ?gN ?gm IsPart.none (IsPart.int _ _) hrsv (kmk_upto hrsv (by omega)) ?gz ?_ ?gs ?gt; (case gF => k_asm); (case gN => k_asm); (case gm => kcj_m); (case gz => exact due_sz (by rw [List.length_map]; omega)); (case gs => with_unfolding_all rfl); (case gt => kmk_pure)); intro D8 cv h8 F' N' l8 hcv; (try k_lt l8))
  k_with "loop" => (
    (with_reducible show wpAny _ _ _ (fun it s₂ => LoopG _ _ _ _ _ (Stmt.Assign [PySem.Expr.Name (Str.ofString "word") _] _ _ :: _) _ _ it s₂) _ _)
    (rename Fr _ _ _ _ => lF0); obtain ⟨uF0, lF1⟩ := fr_eight (Str.ofString "rising") (Str.ofString "wide") (Str.ofString "common") (Str.ofString "games") (Str.ofString "word") (Str.ofString "lined") (Str.ofString "sums") (Str.ofString "needed") lF0 (by with_unfolding_all rfl) (by with_unfolding_all rfl) (by with_unfolding_all rfl) (by with_unfolding_all rfl) (by with_unfolding_all rfl) (by with_unfolding_all rfl) (by with_unfolding_all rfl) (by with_unfolding_all rfl); clear lF0; (rename News _ _ _ _ => lN8); replace lN8 := nb_pick0 lN8; have hneR := (rest_l lN8 (List.mem_cons_of_mem _ (List.mem_cons_of_mem _ (List.mem_cons_of_mem _ List.mem_cons_self))) (by assumption) List.mem_cons_self (rest_l lN8 (List.mem_cons_of_mem _ (List.mem_cons_of_mem _ (List.mem_cons_of_mem _ List.mem_cons_self))) (by assumption) (List.mem_cons_of_mem _ List.mem_cons_self) (rest_c lN8 (List.mem_cons_of_mem _ (List.mem_cons_of_mem _ List.mem_cons_self)) (Nat.ne_of_gt (Nat.lt_succ_self _)) (rest_c lN8 (List.mem_cons_of_mem _ (List.mem_cons_of_mem _ (List.mem_cons_of_mem _ (List.mem_cons_of_mem _ List.mem_cons_self)))) (Nat.ne_of_lt (Nat.lt_succ_self _)) (rest_c lN8 (List.mem_cons_of_mem _ (List.mem_cons_of_mem _ (List.mem_cons_of_mem _ (List.mem_cons_of_mem _ (List.mem_cons_of_mem _ List.mem_cons_self))))) (Nat.ne_of_lt (Nat.lt_succ_of_lt (Nat.lt_succ_self _))) (rest_nil lN8 (List.mem_cons_of_mem _ (List.mem_cons_of_mem _ (List.mem_cons_of_mem _ List.mem_cons_self))))))))); replace lN8 := news_front (A := [_, _, _]) lN8; (try dsimp only [List.cons_append, List.nil_append] at lN8)
    k_dflt (
    (rename Fr _ _ _ _ => lF'); (rename News _ _ _ _ => lN'); (rename IsRange _ _ _ _ _ _ _ _ => rgX)
    refine' lt_range (σ := WS) (fun c => [(_, c.c)]) [_, _, _, _, _] (fun c => [(Str.ofString "word", .int c.w c.tw), (Str.ofString "lined", .int c.l c.tl), (Str.ofString "sums", .int c.s c.ts), (Str.ofString "needed", .int c.n c.tn)]) [] (fun i c => WP ww row rs i c) ⟨_, _, _, _, _, _, _, _, _⟩ rfl rgX (small_one (by first | decide | omega) (by first | decide | omega) (by first | decide | omega) (by first | decide | omega)) (rangeSize_nat _ _) lF' (lN') ?lk ?lp ?_ ?_
    (case lk => first | exact List.forall_mem_nil _ | kst_all)
    (case lp => exact wp0 (by assumption))
    all_goals (try clear lF' lN')
    rotate_left
    rintro ⟨kc, w, tw, l, tl, sm, ts, nd, tn⟩ uA hA tkA hPA F' N'; (try dsimp only [List.cons_append, List.nil_append, kstB, lpM] at N' hPA F'); rw [tn_sub] at hPA; obtain ⟨⟨vk, hvk⟩, ew, el, es, en⟩ := hPA.fin hrl (hrsl.trans hrl); (try dsimp only at ew el es en hvk); subst ew; subst el; subst es; subst en; obtain ⟨uF, lF2⟩ := fr_seven (Str.ofString "word") (Str.ofString "lined") (Str.ofString "sums") (Str.ofString "needed") (Str.ofString "wide") (Str.ofString "common") (Str.ofString "games") F' (by with_unfolding_all rfl) (by with_unfolding_all rfl) (by with_unfolding_all rfl) (by with_unfolding_all rfl) (by with_unfolding_all rfl) (by with_unfolding_all rfl) (by with_unfolding_all rfl); clear F'; replace N' := nb_pick1 N'
    rotate_left
    rintro ⟨kc, w, tw, l, tl, sm, ts, nd, tn⟩ iA tA uA IA itA sA hsA hiA hneA hikA hPA F' N'; (try dsimp only [List.cons_append, List.nil_append, kstB, lpM] at N' hneA hPA F'); rw [tn_sub] at hiA; obtain ⟨vk, hvk⟩ := hPA.d; have n1 := neN (hneA _ List.mem_cons_self); (try dsimp only at n1 hvk)))
  k_with "ltend" => k_dflt (
    (rename News _ _ _ _ => nE')
    refine' LtEnd.intro (σ := WS) ⟨_, _, _, _, _, _, _, _, _⟩ ?e1 nE' ?e3 ?e4 ?e5 ?e6 ?e7 ?e8
    (case e1 => k_asm); (case e6 => kst_all); (case e3 => kcj_in); (case e4 => kcj_m)
    (case e5 => (intro p hp; rw [List.mem_singleton.mp hp]; exact ne_it_cell hikA (by assumption)))
    (case e7 => exact same_of (Str.ofString "needed") (by kst_same) (.inl ⟨_, (List.mem_cons_of_mem _ (List.mem_cons_of_mem _ (List.mem_cons_of_mem _ List.mem_cons_self)))⟩))
    (case e8 => exact WP.next hPA hiA hrl hrsl (by assumption)))
  k_with "slice2" => (k_dflt (refine kba_turn (value' := PySem.Expr.Name (PySem.Str.ofString "_") ⟨0, 0, 0, 0⟩) (fun _ => rfl) ?_); (try dsimp only); k_dflt (refine' r_slice (s := ⟨_, _, _, _, _⟩) ?gF ?gN ?gm (IsPart.int _ _) (IsPart.int _ _) ?gi ?gq ?gz ?_ ?gs ?gt; (case gF => k_asm); (case gN => k_asm); (case gm => kcj_m); (case gi => exact ints8); (case gq => exact (kmk_run ints8 (Int.natCast_nonneg _) (Int.natCast_nonneg _))); (case gz => exact due_sz (by decide)); (case gs => with_unfolding_all rfl); (case gt => kmk_pure)); intro D2 ev h2 F' N' l2 hev0; (try k_lt l2); obtain ⟨el, hev, hel⟩ := fill_of hdv hdl hm8 hev0; clear hev0)
  k_with "compsrc" => k_dflt (
    refine' r_lci_listA (fun i => ((dr ++ el).getD i 0).fmod (mm : Int)) rfl ?cF ?cN ?cq ?cz ?_ ?_
    (case cF => k_asm); (case cN => k_asm); (case cq => kcj_m); (case cz => exact due_sz (by rw [(hdv.append hev).length]; omega))
    rotate_left
    intro D3 wv h3 tk3 hwv ho3 F' N'
    have q4 := neN (ho3 _ (List.mem_cons_of_mem _ (List.mem_cons_of_mem _ (List.mem_cons_of_mem _ (List.mem_cons_of_mem _ List.mem_cons_self))))); have q5 := neN (ho3 _ (List.mem_cons_of_mem _ (List.mem_cons_of_mem _ (List.mem_cons_of_mem _ (List.mem_cons_of_mem _ (List.mem_cons_of_mem _ List.mem_cons_self)))))); have q6 := neN (ho3 _ (List.mem_cons_of_mem _ (List.mem_cons_of_mem _ (List.mem_cons_of_mem _ (List.mem_cons_of_mem _ (List.mem_cons_of_mem _ (List.mem_cons_of_mem _ List.mem_cons_self))))))); have q7 := neN (ho3 _ (List.mem_cons_of_mem _ (List.mem_cons_of_mem _ (List.mem_cons_of_mem _ (List.mem_cons_of_mem _ (List.mem_cons_of_mem _ (List.mem_cons_of_mem _ (List.mem_cons_of_mem _ List.mem_cons_self)))))))); (try dsimp only at q4 q5 q6 q7); clear ho3
    obtain ⟨wn, hwn, hwl, hwb⟩ := wins_of (hdv.append hev).length hel hm5 hwv
    rotate_left
    rintro i7 v7 ys7 I7 oI7 C7 oC7 D7 m7 s7 E7 hs7 hi7 hv7 hC7 hx7 F' N'
    obtain ⟨t7, rfl, hi7'⟩ := at_int (hdv.append hev) (by simpa using hv7))
  k_with "mycall" => k_dflt (
    (refine' (d_order mm ww row rs hm5 hm8 hw9 hwL hrl hrb hrsp hrss) _ _ _ _ _ _ _ _ _ _ ?h0 ?h1 _ _ _ _ _ _ _ _ _ _ _ _ _ _ _ _ _ ?k1 ?k2 ?k3 ?k4 ?k5 ?kK ?kd ?ku ?_; (case k1 => k_asm); (case k2 => k_asm); (case k3 => k_asm); (case k4 => k_asm); (case k5 => k_asm); (case kK => exact rfl); (case kd => first | decide | cb_room); (case ku => first | decide | cb_units); (case h0 => assumption); (case h1 => assumption); (intro tO hO tkO FO NO)))
  k_with "mycall" => k_dflt (
    (refine' (d_sums ww mm rs row hw9 hwL hrl hm8 hrb hrsp) _ _ _ _ _ _ _ _ _ ?h0 ?h1 _ _ _ _ _ _ _ _ _ _ _ _ _ _ _ _ _ ?k1 ?k2 ?k3 ?k4 ?k5 ?kK ?kd ?ku ?_; (case k1 => k_asm); (case k2 => k_asm); (case k3 => k_asm); (case k4 => k_asm); (case k5 => k_asm); (case kK => exact rfl); (case kd => first | decide | cb_room); (case ku => first | decide | cb_units); (case h0 => assumption); (case h1 => assumption); (intro pD tD uD hD tkD FD ND lD; (try k_lt lD))))
  k_with "mycall" => k_dflt (
    (refine' (d_ones mm ww hm8 hw9 hwL) _ _ _ _ _ _ _ _ _ ?h0 ?h1 _ _ _ _ _ _ _ _ _ _ _ _ _ _ _ _ _ ?k1 ?k2 ?k3 ?k4 ?k5 ?kK ?kd ?ku ?_; (case k1 => k_asm); (case k2 => k_asm); (case k3 => k_asm); (case k4 => k_asm); (case k5 => k_asm); (case kK => exact rfl); (case kd => first | decide | cb_room); (case ku => first | decide | cb_units); (case h0 => assumption); (case h1 => assumption); (intro tE hE tkE FE NE; have hSl := slots_law hw9 (hrsl.trans hrl) hm8 (fun x hx => hrb x (hrsp.mem_iff.mp hx)))))
  k_with "store" => ((with_reducible show wpAny _ _ (storeName _ (Str.ofString "marks") _) _ _ _); rw [marks_cast hw9])
  k_with "store" => ((with_reducible show wpAny _ _ (storeName _ (Str.ofString "above") _) _ _ _); rw [above_cast hSl])
  k_with "boolop" => ((with_reducible show wpAny _ _ (eval (PySem.Expr.BoolOp _ [_, _] _) _) _ _ _); (fail_if_success (with_reducible show wpAny _ _ _ (JoinB _ _ _ _ _ _) _ _)); obtain ⟨eb, heb⟩ := ex_bool (Enough mm rs); k_dflt (refine' r_joinb eb ?jF ?jN ?_ ?_; (case jF => k_asm); (case jN => k_asm); rotate_left; intro h5 tk5 F' N'; rotate_left))
  k_with "mycall" => k_dflt (
    (refine' (d_league row (Nat.le_trans (Nat.le_of_eq hrl) hm8)) _ _ _ _ _ _ _ _ ?h0 ?h1 _ _ _ _ _ _ _ _ _ _ _ _ _ _ _ _ _ ?k1 ?k2 ?k3 ?k4 ?k5 ?kK ?kd ?ku ?_; (case k1 => k_asm); (case k2 => k_asm); (case k3 => k_asm); (case k4 => k_asm); (case k5 => k_asm); (case kK => exact rfl); (case kd => first | decide | cb_room); (case ku => first | decide | cb_units); (case h0 => kcj_m); (case h1 => exact hrow); (intro pB tlB kB hB tkB FB NB hdoB hlenB lB; (try k_lt lB); have hbeq := lg_says hrl hm5 hm8 hrb hrsp hrss hdoB heb; replace NB := And.intro trivial (nb_pick NB); replace FB := And.intro trivial FB; (repeat (rename News _ _ _ _ => nX; clear nX)); (repeat (rename Fr _ _ _ _ => nX; clear nX)); replace NB := NB.2; replace FB := FB.2)))
  k_with "nepairs" => (k_dflt (refine' r_ne_pairs (tl := tlB) ?zN ?za ?zb ?zt ?zu ?_; (case zN => k_asm); (case za => kcj_m); (case zb => kcj_m); (case zt => (intro y hy; repeat (first | exact List.mem_map_of_mem hy | apply List.mem_cons_of_mem))); (case zu => cb_units)); rw [hbeq])
  k_with "store" => ((with_reducible show wpAny _ _ (storeName _ (Str.ofString "tight") _) _ _ _); rw [tight_cast hSl]; (rename Fr _ _ _ _ => lF); obtain ⟨uF2, lF2⟩ := fr_two (Str.ofString "wide") (Str.ofString "beaten") lF (by with_unfolding_all rfl) (by with_unfolding_all rfl); clear lF)
  k_with "compsrc" => k_dflt (
    (rename IsRange _ _ _ _ _ _ _ _ => rgX)
    refine' r_lcip_range _ (fun i => ((row.map cI).getD ((List.range mm).getD i 0) 0, (((List.range mm).getD i 0 : Nat) : Int))) rfl ?cF ?cN rgX (small_one (by first | decide | omega) (by first | decide | omega) (by omega) (by omega)) (rangeSize_nat _ _) ?cz ?_ ?_
    (case cF => k_asm); (case cN => k_asm); (case cz => exact due_sz (by omega))
    rotate_left
    intro D8 tl8 nw8 h8 tk8 hv8 ht8 hk8 ho8 F' N'
    rotate_left
    rintro i7 v7 nw7 ys7 I7 oI7 C7 oC7 D7 m7 s7 E7 hs7 hi7 ⟨t7, rfl⟩ hk7 hC7 hx7 F' N'
    rw [tn_sub] at hi7
    have hcl := hk7 _ (List.mem_cons_of_mem _ (List.mem_cons_of_mem _ (List.mem_cons_of_mem _ (List.mem_cons_of_mem _ (List.mem_cons_of_mem _ List.mem_cons_self)))))
    have hcw := hk7 _ (List.mem_cons_of_mem _ (List.mem_cons_of_mem _ (List.mem_cons_of_mem _ List.mem_cons_self))))
  k_with "sorted" => k_dflt (
    refine' r_sorted_pairs (tl := tl8) ?sF ?sN ?sq ?st ?s1 ?s64 ?sn ?_
    (case sF => k_asm); (case sN => k_asm); (case sq => kcj_m)
    (case st => (intro y hy; repeat (first | exact ht8 y hy | apply List.mem_cons_of_mem)))
    (case s1 => exact od_len1 hv8 hm5)
    (case s64 => exact lg_len64 hv8 (by omega))
    (case sn => exact lg_nod hv8 od_n List.nodup_range)
    intro D9 tl9 c9 h9 hp9 hs9 F' N' l9; (try k_lt l9))
  k_with "srclp" => k_dflt (
    refine' r_lcpi tl9 (fun q => q.2) rfl ?pF ?pN ?pq ?pz ?pt ?_ ?_
    (case pF => k_asm); (case pN => k_asm); (case pq => kcj_m); (case pz => exact due_sz (by rw [hp9.length_eq]; exact Nat.le_of_lt (Nat.lt_trans (lg_len64 hv8 (by omega)) (by decide))))
    (case pt => (intro y hy; have hy' := hp9.mem_iff.mp hy; repeat (first | exact ht8 y hy' | apply List.mem_cons_of_mem)))
    rotate_left
    intro D6 ys6 h6 tk6 hys6 ho6 F' N'
    obtain ⟨od, he1, hop, hos⟩ := lg_sorted od_n hv8 hp9 hs9
    rw [he1] at hys6
    replace N' := nb_order N' hk8
    have hneO := ne_front N' hX (off_list (off_list (off_cell (Nat.ne_of_lt (Nat.lt_succ_self _)) (off_list (off_cell (Nat.ne_of_lt (Nat.lt_succ_of_lt (Nat.lt_succ_self _))) (off_cell (Nat.ne_of_lt (Nat.lt_succ_of_lt (Nat.lt_succ_of_lt (Nat.lt_succ_self _)))) (tts_off tlB)))))))
    rotate_left
    rintro y7 ys7 I7 oI7 C7 oC7 D7 m7 s7 E7 hs7 hy7 hC7 hx7 hx7' F' N')
  k_with "loop" => (
    (with_reducible show wpAny _ _ _ (fun it s₂ => LoopG _ _ _ _ _ (Stmt.Assign [PySem.Expr.Name (Str.ofString "out") _] _ _ :: _) _ _ it s₂) _ _)
    (rename News _ _ _ _ => lN8); replace lN8 := nb_k lN8; have hneF := ne_front lN8 hvk (off_cell (Nat.ne_of_gt (Nat.lt_succ_self _)) (off_list (off_list (off_cell (Nat.ne_of_lt (Nat.lt_succ_self _)) (off_cell (Nat.ne_of_lt (Nat.lt_succ_of_lt (Nat.lt_succ_self _))) (tts_off tlB)))))); have hE := heb.mp (by assumption)
    k_dflt (
    (rename Fr _ _ _ _ => lF'); (rename News _ _ _ _ => lN'); (rename IsRange _ _ _ _ _ _ _ _ => rgX)
    refine' lt_range (σ := Obj) (fun c => [(_, c)]) (_ :: _ :: _ :: _ :: _ :: tlB.map TT.e) (fun c => []) [Str.ofString "out"] (fun i c => ∃ v, c.data = .cell v) kc rfl rgX (small_one (by first | decide | omega) (by first | decide | omega) (by first | decide | omega) (by first | decide | omega)) (rangeSize_nat _ _) lF' (lN') ?lk ⟨_, hvk⟩ ?_ ?_
    (case lk => first | exact List.forall_mem_nil _ | kst_all)
    skip
    all_goals (try clear lF' lN')
    rotate_left
    rintro kd uK hK tkK hPK F' N'; (try dsimp only [List.cons_append, List.nil_append, kstB, lpM] at N' hPK F'); skip
    rotate_left
    rintro kd iK tK uK IK itK sK hsK hiK hneK hikK hPK F' N'; (try dsimp only [List.cons_append, List.nil_append, kstB, lpM] at N' hneK hPK F'); obtain ⟨vk2, hvk2⟩ := hPK; have n1 := neN (hneK _ List.mem_cons_self); (try dsimp only at n1); have hiK' : iK < mm := by omega))
  k_with "slice" => ((with_reducible show wpAny _ _ (subscriptTail (PySem.Expr.Name (Str.ofString "order") _) _ _ _) _ _ _); k_dflt (refine' r_upto ?gF ?gN ?gm ?gi ?g0 ?gz ?_ ?gs ?gt; (case gF => k_asm); (case gN => k_asm); (case gm => kcj_m); (case gi => exact hys6); (case g0 => omega); (case gz => exact due_sz (by rw [ints_len hys6, hop.length_eq, List.length_range]; omega)); (case gs => with_unfolding_all rfl); (case gt => kmk_pure)); intro D4 ws4 h4 F' N' l4 hI4; (try k_lt l4))
  k_with "srcpt" => k_dflt (
    refine' r_pt tlB (gOut ((od.map fun (n : Nat) => (n : Int)).take ((1 : Int) + (iK : Int)).toNat)) (fun _ => 1) rfl ?pF ?pN ?pq ?pz ?pt ?_ ?_ ?_
    (case pF => k_asm); (case pN => k_asm); (case pq => kcj_m); (case pz => exact due_sz (by omega))
    (case pt => (intro y hy; repeat (first | exact List.mem_map_of_mem hy | apply List.mem_cons_of_mem)))
    rotate_left
    rintro y7 ys7 I7 oI7 C7 oC7 D7 m7 s7 E7 hs7 hy7 hg7 hC7 hx7 hx7' F' N'
    rotate_left
    intro D8 ys8 h8 tk8 hys8 ho8 F' N'
    rotate_left
    rintro y7 ys7 I7 oI7 C7 oC7 D7 m7 s7 E7 hs7 hy7 hC7 hx7 hx7' F' N')
  k_with "eqnil" => (k_dflt (refine' r_eq_nil ?zN ?za ?zb ?zi ?zu ?_; (case zN => k_asm); (case za => kcj_m); (case zb => kcj_m); (case zi => exact hys8); (case zu => cb_units)); rw [tight_out hSl hrl hm5 hm8 hrb hrsp hrss hop hos hdoB hE hiK'])
  k_with "ltend" => k_dflt (
    (rename News _ _ _ _ => nE')
    refine' LtEnd.intro (σ := Obj) _ ?e1 nE' ?e3 ?e4 ?e5 ?e6 ?e7 ?e8
    (case e1 => k_asm); (case e6 => first | exact List.forall_mem_nil _ | kst_all); (case e3 => kcj_in); (case e4 => kcj_m)
    (case e5 => (intro p hp; rw [List.mem_singleton.mp hp]; exact ne_it_cell hikK (by assumption)))
    (case e7 => exact same_of (Str.ofString "out") (by kst_same) (.inr rfl))
    (case e8 => exact ⟨_, by assumption⟩))
  k_steps
  all_goals first
    | ((with_reducible show Ob (_ = _)); first | exact Ob.mk (by with_reducible rfl) | exact Ob.mk (en_no hSl heb (by assumption)) | exact Ob.mk (en_yes hSl heb hrsp (by assumption)) | exact Ob.mk (ob_o1 hi7) | exact Ob.mk (ob_o2 hi7) | exact Ob.mk (g_ff (by assumption) (by assumption)) | exact Ob.mk (g_tt (by assumption) (by assumption)) | exact Ob.mk (g_f (by assumption)))
    | ((with_reducible show Ob (_ ≠ _)); first | exact Ob.mk (by decide) | exact Ob.mk (by omega))
    | ((with_reducible show Ob (_ ≠ _ ∧ _ = _)); first | exact Ob.mk (py2 _))
    | ((with_reducible show Ob (Sm _ ∧ Sm _)); first | exact Ob.mk (ob_i hiA hm8) | exact Ob.mk (ob_nd hPA hiA hm8 hw9 hwL) | exact Ob.mk (ob_s hPA hiA hm8 hw9 hwL hrl hrsl hrb hrsp) | exact Ob.mk (ob_l hPA hiA hm8 hw9 hwL hrb hrsp) | exact Ob.mk (ob_k2 hiK' hm8 hwL) | exact Ob.mk (ob_abs _) | exact Ob.mk (ob_mw hm8 hwL) | exact Ob.mk (ob_m1 hm5 hm8))
    | ((with_reducible show Ob (0 ≤ _ ∧ _ ≤ 100000 ∧ Sm _)); first | exact Ob.mk (ob_w hPA hiA hm8 hw9 hwL hrb) | exact Ob.mk (ob_rm hrm2 hm8 hwL) | exact Ob.mk (ob_marks hm8 hw9 hwL) | exact Ob.mk (ob_w1 hwL) | exact Ob.mk (ob_lined hm8 hw9 hwL hrl hrb hrsp))
    | ((with_reducible show Ob (0 ≤ _ ∧ _ ≤ 100000)); first | exact Ob.mk (ob_ww hwL))
    | ((with_reducible show Ob (0 ≤ _ ∧ _ < _)); first | exact Ob.mk (ob_idx (by rw [hrsl, hrl]; exact hiA)) | exact Ob.mk (ob_idx (by rw [hrl]; exact hiA)) | exact Ob.mk (ob_idx (by rw [hrl]; exact hi7)) | exact Ob.mk ((last_ok hwl hm5 hwb).2) | exact Ob.mk (⟨by assumption, by assumption⟩))
    | ((with_reducible show Ob ((0 : Int) + _ < _)); first | exact Ob.mk (ob_63 hiA hm8) | exact Ob.mk (ob_63 hi7 hm8))
    | ((with_reducible show Ob (_ < _)); first | exact Ob.mk (ob_dv hdv hdl hm8))
    | ((with_reducible show Ob (_ ≤ _)); first | exact Ob.mk (ob_k1 hiK' hw9) | exact Ob.mk (ob_len hrow hrl hm8) | exact Ob.mk (ob_len2 hdv hev hel hm8))
    | ((with_reducible show _ = _); first | exact ob_o1 hi7 | exact ob_o2 hi7)
    | ((with_reducible show GoodW _ _ _ _ _ _ _); (rename (((_ : Bool) != _) = true) => hX); exact (bne_no hX).elim)
    | skip

  done)
end Mine
end
theorem PySem.Challenge.cw_we0001_02_holds : PySem.Challenge.rw_we0001_02.Holds :=
  Mine.w_law
