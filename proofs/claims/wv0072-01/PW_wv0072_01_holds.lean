import PyProof.Rows.All
import Wide.All
import OpenK.AllK
import Wide.FinOn
import Lean
import PySem.Challenge.RW_wv0072_01
set_option Elab.async false
set_option rowWalk.seconds 0
set_option compiler.extract_closed false
section
open PySem PySem.W PyProof.Rows
set_option maxRecDepth 100000
set_option maxHeartbeats 8000000
namespace Mine
open_top hd for PySem.Challenge.rw_wv0072_01
end Mine
end
section
open PySem PySem.W PyProof.Rows
namespace Mine
theorem p2pos (k : Nat) : (0 : Int) < 2 ^ k := kbt_pos k
theorem p2add (j k : Nat) : (2 : Int) ^ (j + k) = 2 ^ j * 2 ^ k := Int.pow_add ..
theorem p2succ (k : Nat) : (2 : Int) ^ (k + 1) = 2 * 2 ^ k := by rw [Int.pow_succ, Int.mul_comm]
theorem p2mono {j k : Nat} (h : j ≤ k) : (2 : Int) ^ j ≤ 2 ^ k := by
  have := Nat.pow_le_pow_right (n := 2) (by decide) h
  rw [← kbt_cast, ← kbt_cast]
  exact Int.ofNat_le.mpr this
theorem fdivp {a b : Int} (hb : 0 < b) : a.fdiv b = a / b := Int.fdiv_eq_ediv_of_nonneg a (Int.le_of_lt hb)
theorem fmodp {a b : Int} (hb : 0 < b) : a.fmod b = a % b := Int.fmod_eq_emod_of_nonneg a (Int.le_of_lt hb)
theorem fdiv2 (a : Int) (k : Nat) : a.fdiv (2 ^ k) = a / 2 ^ k := fdivp (p2pos k)
theorem and_mask (x : Int) (k : Nat) : Builtin.bitAnd x (2 ^ k - 1) = x % 2 ^ k := kbt_mask x k
theorem or_sum {x y : Int} (k : Nat) (hx : 0 ≤ x) (hy : 0 ≤ y) (hy2 : y < 2 ^ k) : Builtin.bitOr (x * 2 ^ k) y = x * 2 ^ k + y := by
  have hp := p2pos k
  have hz : Builtin.bitAnd (x * 2 ^ k) y = 0 := by
    have hx0 : 0 ≤ x * 2 ^ k := Int.mul_nonneg hx (Int.le_of_lt hp)
    rw [bitAnd_pp hx0 hy]
    have e1 : (x * 2 ^ k).toNat = 2 ^ k * x.toNat := by
      have e : x * 2 ^ k = ((2 ^ k * x.toNat : Nat) : Int) := by
        rw [Int.natCast_mul, kbt_cast, Int.toNat_of_nonneg hx, Int.mul_comm]
      rw [e]; rfl
    have e2 : y.toNat < 2 ^ k := by
      have hc := kbt_cast k
      omega
    rw [e1]
    have h1 := nat_or_add_and (2 ^ k * x.toNat) y.toNat
    have h2 := Nat.two_pow_add_eq_or_of_lt e2 x.toNat
    rw [← h2] at h1
    omega
  rw [bitOr_and, hz]; omega
theorem or_sum' {x y : Int} (k : Nat) (hx : 0 ≤ x) (hy : 0 ≤ y) (hy2 : y < 2 ^ k) {z : Int} (hz : z = x * 2 ^ k) : Builtin.bitOr z y = z + y := by
  subst hz; exact or_sum k hx hy hy2
theorem natAbs_lt_of {a : Int} {k : Nat} (h0 : 0 ≤ a) (h : a < 2 ^ k) : a.natAbs < 2 ^ k := by
  have hc := kbt_cast k
  omega
theorem bits_le {a : Int} {k : Nat} (h0 : -(2 ^ k) < a) (h : a < 2 ^ k) : Builtin.Int.intBits a ≤ k := by
  refine intBits_le_iff.mpr ?_
  have hc := kbt_cast k
  omega
theorem bits_lt {a : Int} {k : Nat} (h0 : 0 ≤ a) (h : Builtin.Int.intBits a ≤ k) : a < 2 ^ k := by
  have := intBits_le_iff.mp h
  have hc := kbt_cast k
  omega
/-- quotient and rest by what they solve -/
theorem div_unique {a b q r : Int} (hb : 0 < b) (h : q * b + r = a) (h0 : 0 ≤ r) (h1 : r < b) : q = a / b ∧ r = a % b := by
  have := kbt_unique (a := a) hb (q := q) (r := r) (by rw [Int.mul_comm]; omega) h0 h1
  exact ⟨this.1.symm, this.2.symm⟩
theorem mul_lt_of {x y b c : Int} (hc : 0 < c) (h : x < b) (hy : y < c) : x * c + y < b * c := by
  have h1 : (x + 1) * c ≤ b * c := Int.mul_le_mul_of_nonneg_right (by omega) (Int.le_of_lt hc)
  rw [Int.add_mul] at h1
  omega
theorem lt_of_mul {x b c : Int} (hc : 0 < c) (h : x * c < b * c) : x < b := Int.lt_of_mul_lt_mul_right h (Int.le_of_lt hc)

/-- the preconditions -/
structure Pre2 (N a b n : Int) : Prop where
  n0 : 0 ≤ n
  nN : n ≤ N
  b0 : 0 < b
  bn : b < 2 ^ n.toNat
  tb : 2 ^ n.toNat ≤ 2 * b
  a0 : 0 ≤ a
  an : a < b * 2 ^ n.toNat
structure Pre3 (N a12 a3 b b1 b2 n : Int) : Prop where
  n0 : 0 ≤ n
  nN : n ≤ N
  b0 : 0 < b
  hb : b = b1 * 2 ^ n.toNat + b2
  b10 : 0 ≤ b1
  b1n : b1 < 2 ^ n.toNat
  tb : 2 ^ n.toNat ≤ 2 * b1
  b20 : 0 ≤ b2
  b2n : b2 < 2 ^ n.toNat
  a0 : 0 ≤ a12
  a30 : 0 ≤ a3
  a3n : a3 < 2 ^ n.toNat
  an : a12 * 2 ^ n.toNat + a3 < b * 2 ^ n.toNat
theorem Pre3.lt {N a12 a3 b b1 b2 n : Int} (h : Pre3 N a12 a3 b b1 b2 n) : a12 < b := by
  have := h.an; have := h.a30
  exact lt_of_mul (p2pos n.toNat) (by omega)
theorem Pre3.blt {N a12 a3 b b1 b2 n : Int} (h : Pre3 N a12 a3 b b1 b2 n) : b < 2 ^ n.toNat * 2 ^ n.toNat := by
  rw [h.hb]; exact mul_lt_of (p2pos _) h.b1n h.b2n
/-- the first way of the three by two: the upper halves meet -/
theorem d3_one {N a12 a3 b b1 b2 n x q bq r0 r1 rs ro m r : Int} (h : Pre3 N a12 a3 b b1 b2 n)
    (hx : x = a12.fdiv (2 ^ n.toNat)) (he : x = b1) (hq : q = 1 * 2 ^ n.toNat - 1) (hbq : bq = b1 * 2 ^ n.toNat) (hr0 : r0 = a12 - bq) (hr1 : r1 = r0 + b1)
    (hrs : rs = r1 * 2 ^ n.toNat) (hro : ro = Builtin.bitOr rs a3) (hm : m = q * b2) (hr : r = ro - m) :
    q * b + r = a12 * 2 ^ n.toNat + a3 ∧ r < b := by
  obtain ⟨n0, nN, b0, hb, b10, b1n, tb, b20, b2n, a0, a30, a3n, an⟩ := h
  have hp := p2pos n.toNat
  rw [fdiv2] at hx
  have hd := Int.mul_ediv_add_emod a12 (2 ^ n.toNat)
  have hm0 := Int.emod_nonneg a12 (show (2 : Int) ^ n.toNat ≠ 0 by omega)
  rw [← hx, he, Int.mul_comm, ← hbq] at hd
  have hr10 : 0 ≤ r1 := by omega
  rw [or_sum' n.toNat hr10 a30 a3n hrs] at hro
  generalize (2 : Int) ^ n.toNat = P at *
  have e : q * b + r = a12 * P + a3 := by subst hr hm hro hrs hr1 hr0 hbq hq hb; grind
  refine ⟨e, ?_⟩
  have hqb : q * b = b * P - b := by subst hq; grind
  omega
theorem d3_two_pre {N a12 a3 b b1 b2 n x : Int} (h : Pre3 N a12 a3 b b1 b2 n)
    (hx : x = a12.fdiv (2 ^ n.toNat)) (he : x ≠ b1) : Pre2 N a12 b1 n := by
  have hlt := h.lt
  obtain ⟨n0, nN, b0, hb, b10, b1n, tb, b20, b2n, a0, a30, a3n, an⟩ := h
  have hp := p2pos n.toNat
  rw [fdiv2] at hx
  have hx2 : x < b1 := by
    have : x ≤ b1 := by
      subst hx
      refine Int.le_of_lt_add_one ((Int.ediv_lt_iff_lt_mul hp).mpr ?_)
      rw [Int.add_mul]; omega
    omega
  have hx0 : 0 ≤ x := by subst hx; exact Int.ediv_nonneg a0 (Int.le_of_lt hp)
  exact ⟨n0, nN, by omega, b1n, tb, a0, (Int.ediv_lt_iff_lt_mul hp).mp (hx ▸ hx2)⟩
theorem d3_two {N a12 a3 b b1 b2 n x q r1 rs ro m r : Int} (h : Pre3 N a12 a3 b b1 b2 n)
    (hx : x = a12.fdiv (2 ^ n.toNat)) (he : x ≠ b1) (hq : q = a12 / b1) (hr1 : r1 = a12 % b1)
    (hrs : rs = r1 * 2 ^ n.toNat) (hro : ro = Builtin.bitOr rs a3) (hm : m = q * b2) (hr : r = ro - m) :
    q * b + r = a12 * 2 ^ n.toNat + a3 ∧ r < b := by
  have h2 := d3_two_pre h hx he
  obtain ⟨n0, nN, b0, hb, b10, b1n, tb, b20, b2n, a0, a30, a3n, an⟩ := h
  obtain ⟨-, -, b1p, -, -, -, -⟩ := h2
  have hp := p2pos n.toNat
  have hr10 : 0 ≤ r1 := by subst hr1; exact Int.emod_nonneg _ (by omega)
  have hr11 : r1 < b1 := by subst hr1; exact Int.emod_lt_of_pos _ b1p
  have hd := Int.mul_ediv_add_emod a12 b1
  rw [← hq, ← hr1] at hd
  have hlt := mul_lt_of hp hr11 a3n
  have hq0 : 0 ≤ q := by subst hq; exact Int.ediv_nonneg a0 b10
  have hm0 : 0 ≤ m := by subst hm; exact Int.mul_nonneg hq0 b20
  rw [or_sum' n.toNat hr10 a30 a3n hrs] at hro
  generalize (2 : Int) ^ n.toNat = P at *
  refine ⟨?_, ?_⟩
  · subst hr hm hro hrs hb; grind
  · omega
theorem d3_end {N a12 a3 b b1 b2 n q r : Int} (h : Pre3 N a12 a3 b b1 b2 n) (he : q * b + r = a12 * 2 ^ n.toNat + a3 ∧ r < b) (h0 : ¬ r < 0) :
    q = (a12 * 2 ^ n.toNat + a3) / b ∧ r = (a12 * 2 ^ n.toNat + a3) % b := div_unique h.b0 he.1 (by omega) he.2

/-- two by one, the halves -/
theorem half_pow {n h : Int} (hn : 0 ≤ n) (he : Builtin.bitAnd n 1 = 0) (hh : h = n.fdiv (2 ^ (1 : Int).toNat)) : (2 : Int) ^ n.toNat = 2 ^ h.toNat * 2 ^ h.toNat ∧ 0 ≤ h ∧ 2 * h = n := by
  rw [bitAnd_m1] at he
  rw [fdiv2] at hh
  have e : (2 : Int) ^ (1 : Int).toNat = 2 := rfl
  rw [e] at hh
  have h1 : n.toNat = h.toNat + h.toNat := by omega
  rw [h1, p2add]
  exact ⟨rfl, by omega, by omega⟩
theorem top_half {b : Int} {k : Nat} (bn : b < 2 ^ k * 2 ^ k) (tb : 2 ^ k * 2 ^ k ≤ 2 * b) (b0 : 0 < b) : (2 : Int) ^ k ≤ 2 * (b / 2 ^ k) := by
  cases k with
  | zero => simp at bn; omega
  | succ j =>
    have hp := p2pos (j + 1)
    have e := p2succ j
    have h1 : (2 : Int) ^ j ≤ b / 2 ^ (j + 1) := (Int.le_ediv_iff_mul_le hp).mpr (by
      have : (2 : Int) ^ (j + 1) * 2 ^ (j + 1) = 2 * (2 ^ j * 2 ^ (j + 1)) := by
        rw [e]; generalize (2 : Int) ^ j = P; grind
      omega)
    omega
/-- the machine's own division stays below its other road -/
theorem no_road {N a b n : Int} (p : Pre2 N a b n) (h : (Builtin.Int.intBits a : Int) - n ≤ 4000) : Builtin.divisionGoesByPylong a b = false := by
  obtain ⟨n0, nN, b0, bn, tb, a0, an⟩ := p
  unfold Builtin.divisionGoesByPylong
  have hb : (b == 0) = false := by simpa using (by omega : b ≠ 0)
  simp only [hb, Bool.false_eq_true, if_false]
  have hn1 : 1 ≤ n := by
    rcases Int.lt_or_le 0 n with h0 | h0
    · omega
    · have : n.toNat = 0 := by omega
      rw [this] at bn; simp at bn; omega
  have hlb : n.toNat - 1 ≤ b.natAbs.log2 := by
    refine (Nat.le_log2 (by omega)).mpr ?_
    have hc := kbt_cast (n.toNat - 1)
    have e : (2 : Int) ^ n.toNat = 2 * 2 ^ (n.toNat - 1) := by
      rw [← p2succ]; congr 1; omega
    omega
  by_cases ha : a = 0
  · subst ha; simp
  · have ha' : (a == 0) = false := by simpa using ha
    simp only [ha', Bool.false_eq_true, if_false]
    have hla : a.natAbs.log2 + 1 = Builtin.Int.intBits a := by
      unfold Builtin.Int.intBits; simp [ha']
    simp only [Bool.and_eq_false_iff, decide_eq_false_iff_not]
    omega
theorem d2_first {N M a b n h mk b1 b2 x1 x2 x3 : Int} (p : Pre2 N a b n) (he : Builtin.bitAnd n 1 = 0) (hh : h = n.fdiv (2 ^ (1 : Int).toNat)) (hM : h ≤ M)
    (hmk : mk = 1 * 2 ^ h.toNat - 1) (hb1 : b1 = b.fdiv (2 ^ h.toNat)) (hb2 : b2 = Builtin.bitAnd b mk)
    (hx1 : x1 = a.fdiv (2 ^ n.toNat)) (hx2 : x2 = a.fdiv (2 ^ h.toNat)) (hx3 : x3 = Builtin.bitAnd x2 mk) : Pre3 M x1 x3 b b1 b2 h ∧ x1 * 2 ^ h.toNat + x3 = a / 2 ^ h.toNat := by
  obtain ⟨n0, nN, b0, bn, tb, a0, an⟩ := p
  obtain ⟨hP, h0, h2⟩ := half_pow n0 he hh
  have hp := p2pos h.toNat
  rw [Int.one_mul] at hmk
  rw [fdiv2] at hb1 hx1 hx2
  rw [hmk, and_mask] at hb2 hx3
  rw [hP] at bn an hx1 tb
  rw [← Int.ediv_ediv_of_nonneg (Int.le_of_lt hp), ← hx2] at hx1
  have e1 := Int.mul_ediv_add_emod b (2 ^ h.toNat)
  have e2 := Int.mul_ediv_add_emod x2 (2 ^ h.toNat)
  rw [← hb1, ← hb2, Int.mul_comm] at e1
  rw [← hx1, ← hx3, Int.mul_comm] at e2
  have hx20 : 0 ≤ x2 := by subst hx2; exact Int.ediv_nonneg a0 (Int.le_of_lt hp)
  have hlt : x2 < b * 2 ^ h.toNat := by
    subst hx2
    exact (Int.ediv_lt_iff_lt_mul hp).mpr (by rw [Int.mul_assoc]; exact an)
  refine ⟨⟨h0, hM, b0, e1.symm, ?_, ?_, ?_, ?_, ?_, ?_, ?_, ?_, ?_⟩, ?_⟩
  · subst hb1; exact Int.ediv_nonneg (Int.le_of_lt b0) (Int.le_of_lt hp)
  · subst hb1; exact (Int.ediv_lt_iff_lt_mul hp).mpr bn
  · subst hb1; exact top_half bn tb b0
  · subst hb2; exact Int.emod_nonneg _ (by omega)
  · subst hb2; exact Int.emod_lt_of_pos _ hp
  · subst hx1; exact Int.ediv_nonneg hx20 (Int.le_of_lt hp)
  · subst hx3; exact Int.emod_nonneg _ (by omega)
  · subst hx3; exact Int.emod_lt_of_pos _ hp
  · rw [e2]; exact hlt
  · rw [e2, hx2]
theorem d2_second {M a b h mk b1 b2 x1 x3 r1 y : Int} (p : Pre3 M x1 x3 b b1 b2 h) (hmk : mk = 1 * 2 ^ h.toNat - 1)
    (hr1 : r1 = (x1 * 2 ^ h.toNat + x3) % b) (hy : y = Builtin.bitAnd a mk) : Pre3 M r1 y b b1 b2 h := by
  obtain ⟨n0, nN, b0, hb, b10, b1n, tb, b20, b2n, a0, a30, a3n, an⟩ := p
  have hp := p2pos h.toNat
  rw [hmk, Int.one_mul, and_mask] at hy
  have h1 : 0 ≤ r1 := by subst hr1; exact Int.emod_nonneg _ (by omega)
  have h2 : r1 < b := by subst hr1; exact Int.emod_lt_of_pos _ b0
  have h3 : 0 ≤ y := by subst hy; exact Int.emod_nonneg _ (by omega)
  have h4 : y < 2 ^ h.toNat := by subst hy; exact Int.emod_lt_of_pos _ hp
  exact ⟨n0, nN, b0, hb, b10, b1n, tb, b20, b2n, h1, h3, h4, mul_lt_of hp h2 h4⟩
theorem d2_end {M a b h mk b1 b2 x1 x3 q1 r1 y q2 r2 qs q : Int} (ha : 0 ≤ a) (p : Pre3 M x1 x3 b b1 b2 h) (hx : x1 * 2 ^ h.toNat + x3 = a / 2 ^ h.toNat) (hmk : mk = 1 * 2 ^ h.toNat - 1)
    (hq1 : q1 = (x1 * 2 ^ h.toNat + x3) / b) (hr1 : r1 = (x1 * 2 ^ h.toNat + x3) % b) (hy : y = Builtin.bitAnd a mk)
    (hq2 : q2 = (r1 * 2 ^ h.toNat + y) / b) (hr2 : r2 = (r1 * 2 ^ h.toNat + y) % b) (hqs : qs = q1 * 2 ^ h.toNat) (hq : q = Builtin.bitOr qs q2) : q = a / b ∧ r2 = a % b := by
  have p2 := d2_second p hmk hr1 hy
  obtain ⟨n0, nN, b0, hb, b10, b1n, tb, b20, b2n, a0, a30, a3n, an⟩ := p
  have hp := p2pos h.toNat
  have hq10 : 0 ≤ q1 := by
    subst hq1
    refine Int.ediv_nonneg ?_ (Int.le_of_lt b0)
    have := Int.mul_nonneg a0 (Int.le_of_lt hp); omega
  have hv0 : 0 ≤ r1 * 2 ^ h.toNat + y := by
    have := Int.mul_nonneg p2.a0 (Int.le_of_lt hp); have := p2.a30; omega
  have hq20 : 0 ≤ q2 := by subst hq2; exact Int.ediv_nonneg hv0 (Int.le_of_lt b0)
  have hq21 : q2 < 2 ^ h.toNat := by
    subst hq2
    refine (Int.ediv_lt_iff_lt_mul b0).mpr ?_
    have := p2.an; rw [Int.mul_comm]; exact (Int.mul_comm b _) ▸ (by rw [Int.mul_comm] at this; omega)
  rw [or_sum' h.toNat hq10 hq20 hq21 hqs] at hq
  have e1 := Int.mul_ediv_add_emod (x1 * 2 ^ h.toNat + x3) b
  have e2 := Int.mul_ediv_add_emod (r1 * 2 ^ h.toNat + y) b
  have e3 := Int.mul_ediv_add_emod a (2 ^ h.toNat)
  rw [← hq1, ← hr1] at e1
  rw [← hq2, ← hr2] at e2
  rw [hmk, Int.one_mul, and_mask] at hy
  rw [← hx, ← hy] at e3
  have g1 : 0 ≤ r2 := by subst hr2; exact Int.emod_nonneg _ (by omega)
  have g2 : r2 < b := by subst hr2; exact Int.emod_lt_of_pos _ b0
  refine div_unique b0 ?_ g1 g2
  clear hx hy hq1 hr1 hq2 hr2 hmk
  generalize (2 : Int) ^ h.toNat = P at *
  subst hq hqs
  grind
theorem d2_pad {N a b n a' b' n' : Int} (p : Pre2 N a b n) (ha : a' = a * 2 ^ (1 : Int).toNat) (hb : b' = b * 2 ^ (1 : Int).toNat) (hn : n' = n + 1) (hN : Builtin.bitAnd n 1 ≠ 0) :
    Pre2 (N + 1) a' b' n' ∧ Builtin.bitAnd n' 1 = 0 ∧ a' / b' = a / b ∧ (a' % b').fdiv (2 ^ (1 : Int).toNat) = a % b := by
  obtain ⟨n0, nN, b0, bn, tb, a0, an⟩ := p
  have e : (2 : Int) ^ (1 : Int).toNat = 2 := rfl
  rw [fdiv2]
  rw [e] at ha hb ⊢
  rw [bitAnd_m1] at hN ⊢
  have e2 : (2 : Int) ^ n'.toNat = 2 * 2 ^ n.toNat := by
    have : n'.toNat = n.toNat + 1 := by omega
    rw [this, p2succ]
  have hp := p2pos n.toNat
  refine ⟨⟨by omega, by omega, by omega, by rw [e2]; omega, by rw [e2]; omega, by omega, ?_⟩, by omega, ?_, ?_⟩
  · rw [e2, hb, ha]
    have : b * 2 * (2 * 2 ^ n.toNat) = 2 * (b * 2 ^ n.toNat) + 2 * (b * 2 ^ n.toNat) := by
      generalize (2 : Int) ^ n.toNat = P; grind
    have := Int.mul_nonneg (Int.le_of_lt b0) (Int.le_of_lt hp)
    omega
  · subst ha hb
    exact Int.mul_ediv_mul_of_pos_left _ _ (by decide)
  · subst ha hb
    rw [Int.emod_def, Int.mul_ediv_mul_of_pos_left _ _ (by decide), Int.emod_def]
    have e3 : a * 2 - b * 2 * (a / b) = (a - b * (a / b)) * 2 := by
      generalize a / b = q; grind
    rw [e3]
    exact Int.mul_ediv_cancel _ (by decide)
end Mine
end
section
open PySem PySem.W PyProof.Rows
namespace Mine
/-- figures of a number, the least first -/
def digs (n : Nat) (x : Int) : Nat → List Int
  | 0 => []
  | k + 1 => x % 2 ^ n :: digs n (x / 2 ^ n) k
def undigs (n : Nat) : List Int → Int
  | [] => 0
  | d :: r => d + 2 ^ n * undigs n r
def putAt (ns : List Int) (i : Nat) (ds : List Int) : List Int := ns.take i ++ ds ++ ns.drop (i + ds.length)
theorem digs_len (n : Nat) : ∀ (k : Nat) (x : Int), (digs n x k).length = k
  | 0, _ => rfl
  | k + 1, x => by rw [digs, List.length_cons, digs_len n k]
theorem pow_pow (n k : Nat) : (2 : Int) ^ (n * (k + 1)) = 2 ^ n * 2 ^ (n * k) := by rw [Nat.mul_succ, Nat.add_comm, p2add]
theorem emod_emod_mul (x : Int) {a b : Int} (_ha : 0 < a) (_hb : 0 < b) : x % (a * b) % a = x % a := Int.emod_emod_of_dvd x (Int.dvd_mul_right a b)
theorem emod_mul_ediv (x : Int) {a b : Int} (ha : 0 < a) (hb : 0 < b) : x % (a * b) / a = x / a % b := by
  have h1 := Int.mul_ediv_add_emod x a
  have h2 := Int.mul_ediv_add_emod (x / a) b
  have h3 := Int.emod_nonneg x (Int.ne_of_gt ha)
  have h4 := Int.emod_lt_of_pos x ha
  have h5 := Int.emod_nonneg (x / a) (Int.ne_of_gt hb)
  have h6 := Int.emod_lt_of_pos (x / a) hb
  have h7 : x / a % b * a + x % a = x % (a * b) := by
    have := div_unique (a := x) (b := a * b) (q := x / a / b) (r := x / a % b * a + x % a) (Int.mul_pos ha hb) (by
      rw [Int.mul_comm] at h1 h2
      generalize x % a = r at *
      generalize x / a = q at *
      generalize q % b = r2 at *
      generalize q / b = q2 at *
      subst h1
      grind) (by have := Int.mul_nonneg h5 (Int.le_of_lt ha); omega) (by have := mul_lt_of ha h6 h4; rw [Int.mul_comm a b]; exact this)
    exact this.2
  have := div_unique (a := x % (a * b)) (b := a) ha h7 h3 h4
  exact this.1.symm
theorem digs_add (n : Nat) : ∀ (i j : Nat) (x : Int), digs n x (i + j) = digs n (x % 2 ^ (n * i)) i ++ digs n (x / 2 ^ (n * i)) j
  | 0, j, x => by
    rw [Nat.zero_add, digs, List.nil_append, Nat.mul_zero]
    congr 1
    simp
  | i + 1, j, x => by
    have hp := p2pos n
    have hq := p2pos (n * i)
    rw [Nat.succ_add, digs, digs, List.cons_append, digs_add n i j (x / 2 ^ n), pow_pow]
    rw [emod_emod_mul x hp hq, emod_mul_ediv x hp hq, Int.ediv_ediv_of_nonneg (Int.le_of_lt hp)]
theorem digs_one (n : Nat) {x : Int} (h0 : 0 ≤ x) (h : x < 2 ^ n) : digs n x 1 = [x] := by
  rw [digs, digs, Int.emod_eq_of_lt h0 h]
theorem digs_mod (n : Nat) (k : Nat) (x : Int) : digs n (x % 2 ^ (n * k)) k = digs n x k := by
  have := digs_add n k 0 x
  simpa [digs] using this.symm
theorem digs_range (n : Nat) : ∀ (k : Nat) (x : Int), ∀ d ∈ digs n x k, 0 ≤ d ∧ d < 2 ^ n
  | 0, _, d, h => by simp [digs] at h
  | k + 1, x, d, h => by
    have hp := p2pos n
    rw [digs] at h
    rcases List.mem_cons.mp h with rfl | h
    · exact ⟨Int.emod_nonneg _ (Int.ne_of_gt hp), Int.emod_lt_of_pos _ hp⟩
    · exact digs_range n k _ d h
theorem undigs_digs (n : Nat) : ∀ (k : Nat) (x : Int), undigs n (digs n x k) = x % 2 ^ (n * k)
  | 0, x => by simp [digs, undigs]
  | k + 1, x => by
    have hp := p2pos n
    have hq := p2pos (n * k)
    rw [digs, undigs, undigs_digs n k, pow_pow]
    have h1 := emod_emod_mul x hp hq
    have h2 := emod_mul_ediv x hp hq
    have h3 := Int.mul_ediv_add_emod (x % (2 ^ n * 2 ^ (n * k))) (2 ^ n)
    rw [h1, h2] at h3
    omega
theorem undigs_append (n : Nat) : ∀ (a b : List Int), undigs n (a ++ b) = undigs n a + 2 ^ (n * a.length) * undigs n b
  | [], b => by simp [undigs]
  | d :: r, b => by
    rw [List.cons_append, undigs, undigs, undigs_append n r b, List.length_cons, pow_pow]
    grind
theorem undigs_range (n : Nat) : ∀ (ds : List Int), (∀ d ∈ ds, 0 ≤ d ∧ d < 2 ^ n) → 0 ≤ undigs n ds ∧ undigs n ds < 2 ^ (n * ds.length)
  | [], _ => by simp [undigs]
  | d :: r, h => by
    have hp := p2pos n
    have hd := h d (.head _)
    have hr := undigs_range n r fun e he => h e (.tail _ he)
    rw [undigs, List.length_cons, pow_pow]
    refine ⟨by have := Int.mul_nonneg (Int.le_of_lt hp) hr.1; omega, ?_⟩
    have := mul_lt_of hp hr.2 hd.2
    rw [Int.mul_comm (2 ^ n) (undigs n r), Int.mul_comm (2 ^ n) (2 ^ (n * r.length))]
    omega
theorem putAt_len {ns : List Int} {i : Nat} {ds : List Int} (h : i + ds.length ≤ ns.length) : (putAt ns i ds).length = ns.length := by
  unfold putAt
  rw [List.length_append, List.length_append, List.length_take, List.length_drop]
  omega
theorem putAt_one {ns : List Int} {i : Nat} {x : Int} (h : i < ns.length) : ns.set i x = putAt ns i [x] := by
  unfold putAt
  rw [List.set_eq_take_append_cons_drop, if_pos h, List.length_singleton, List.append_assoc]
  rfl
theorem putAt_two {ns : List Int} {i : Nat} {a b : List Int} (h : i + a.length + b.length ≤ ns.length) : putAt (putAt ns i a) (i + a.length) b = putAt ns i (a ++ b) := by
  have hl := putAt_len (ns := ns) (i := i) (ds := a) (by omega)
  have e1 : (putAt ns i a).take (i + a.length) = ns.take i ++ a := by
    unfold putAt
    exact List.take_left' (by rw [List.length_append, List.length_take]; omega)
  have e2 : (putAt ns i a).drop (i + a.length + b.length) = ns.drop (i + (a ++ b).length) := by
    unfold putAt
    rw [List.drop_append, List.drop_of_length_le (by rw [List.length_append, List.length_take]; omega), List.nil_append, List.drop_drop]
    congr 1
    rw [List.length_append, List.length_append, List.length_take]
    omega
  show (putAt ns i a).take (i + a.length) ++ b ++ (putAt ns i a).drop (i + a.length + b.length) = _
  rw [e1, e2]
  show _ = ns.take i ++ (a ++ b) ++ _
  simp only [List.append_assoc]
theorem putAt_all {ns ds : List Int} (h : ds.length = ns.length) : putAt ns 0 ds = ds := by
  unfold putAt
  rw [h, Nat.zero_add, List.drop_length, List.take_zero, List.nil_append, List.append_nil]

/-- the lower part by exclusive or -/
theorem nat_and_up (x s : Nat) : x &&& (x / 2 ^ s * 2 ^ s) = x / 2 ^ s * 2 ^ s := by
  have e : x / 2 ^ s * 2 ^ s = x >>> s <<< s := by rw [Nat.shiftLeft_eq, Nat.shiftRight_eq_div_pow]
  rw [e]
  apply Nat.eq_of_testBit_eq
  intro i
  rw [Nat.testBit_and, Nat.testBit_shiftLeft, Nat.testBit_shiftRight]
  by_cases h : s ≤ i
  · rw [show s + (i - s) = i from by omega]
    simp [h]
  · simp [h]
theorem xor_low {x : Int} (s : Nat) (hx : 0 ≤ x) : Builtin.bitXor x (x / 2 ^ s * 2 ^ s) = x % 2 ^ s := by
  have hp := p2pos s
  have hq : 0 ≤ x / 2 ^ s := Int.ediv_nonneg hx (Int.le_of_lt hp)
  have hy : 0 ≤ x / 2 ^ s * 2 ^ s := Int.mul_nonneg hq (Int.le_of_lt hp)
  have e : (x / 2 ^ s * 2 ^ s).toNat = x.toNat / 2 ^ s * 2 ^ s := by
    have e1 : x / 2 ^ s * 2 ^ s = ((x.toNat / 2 ^ s * 2 ^ s : Nat) : Int) := by
      rw [Int.natCast_mul, Int.natCast_ediv, kbt_cast, Int.toNat_of_nonneg hx]
    rw [e1]; rfl
  have h1 : Builtin.bitAnd x (x / 2 ^ s * 2 ^ s) = x / 2 ^ s * 2 ^ s := by
    rw [bitAnd_pp hx hy, e, nat_and_up, ← e, Int.toNat_of_nonneg hy]
  rw [bitXor_and, h1]
  have := Int.mul_ediv_add_emod x (2 ^ s)
  rw [Int.mul_comm] at this
  omega

/-- what the inner def of _int2digits asks -/
structure PreA (n x L R len : Int) (k : Nat) : Prop where
  L0 : 0 ≤ L
  LR : L < R
  Rl : R ≤ len
  dk : R - L ≤ 2 ^ k
  x0 : 0 ≤ x
  xs : x < 2 ^ (n.toNat * (R - L).toNat)
  l1 : len ≤ 2 ^ 24
  l2 : n * len ≤ 2 ^ 26
  n0 : 0 < n
theorem mid_facts {L R q mid l1 : Int} (h0 : 0 ≤ L) (h : L < R) (hl : l1 = L + 1) (hne : ¬ l1 = R) (hq : q = L + R) (hm : mid = q.fdiv (2 ^ (1 : Int).toNat)) : L < mid ∧ mid < R ∧ 2 * mid ≤ L + R ∧ L + R ≤ 2 * mid + 1 := by
  rw [fdiv2] at hm
  have e : (2 : Int) ^ (1 : Int).toNat = 2 := rfl
  rw [e] at hm
  omega
theorem shift_eq {n mid L q2 sh : Int} (hn : 0 < n) (h : L < mid) (h2 : q2 = mid - L) (hs : sh = q2 * n) : 0 ≤ sh ∧ sh.toNat = n.toNat * (mid - L).toNat := by
  subst h2 hs
  have h1 : 0 ≤ (mid - L) * n := Int.mul_nonneg (by omega) (by omega)
  refine ⟨h1, ?_⟩
  have e : (mid - L) * n = ((n.toNat * (mid - L).toNat : Nat) : Int) := by
    rw [Int.natCast_mul, Int.toNat_of_nonneg (by omega), Int.toNat_of_nonneg (by omega), Int.mul_comm]
  rw [e]; rfl
theorem PreA.some {n x L R len : Int} {k : Nat} (p : PreA n x L R len k) {l1 : Int} (hl : l1 = L + 1) (hne : ¬ l1 = R) : ∃ j, k = j + 1 := by
  cases k with
  | zero => have := p.dk; have := p.LR; simp at *; omega
  | succ j => exact ⟨j, rfl⟩
theorem preA_low {n x L R len q mid l1 q2 sh up us lo : Int} {k j : Nat} (p : PreA n x L R len k) (hk : k = j + 1) (hlo : lo = Builtin.bitXor x us) (hus : us = up * 2 ^ sh.toNat) (hup : up = x.fdiv (2 ^ sh.toNat)) (hs : sh = q2 * n) (h2 : q2 = mid - L) (hm : mid = q.fdiv (2 ^ (1 : Int).toNat)) (hq : q = L + R) (hl : l1 = L + 1) (hne : ¬ l1 = R) :
    PreA n lo L mid len j := by
  obtain ⟨L0, LR, Rl, dk, x0, xs, c1, c2, n0⟩ := p
  obtain ⟨m1, m2, m3, m4⟩ := mid_facts L0 LR hl hne hq hm
  obtain ⟨s0, se⟩ := shift_eq n0 m1 h2 hs
  rw [fdiv2] at hup
  rw [hus, hup, xor_low _ x0] at hlo
  have hp := p2pos sh.toNat
  rw [hk, p2succ] at dk
  refine ⟨L0, m1, by omega, by omega, ?_, ?_, c1, c2, n0⟩
  · subst hlo; exact Int.emod_nonneg _ (Int.ne_of_gt hp)
  · rw [← se]; subst hlo; exact Int.emod_lt_of_pos _ hp
theorem preA_up {n x L R len len' q mid l1 q2 sh up : Int} {k j : Nat} (p : PreA n x L R len k) (hk : k = j + 1) (hlen : len' = len) (hup : up = x.fdiv (2 ^ sh.toNat)) (hs : sh = q2 * n) (h2 : q2 = mid - L) (hm : mid = q.fdiv (2 ^ (1 : Int).toNat)) (hq : q = L + R) (hl : l1 = L + 1) (hne : ¬ l1 = R) :
    PreA n up mid R len' j := by
  obtain ⟨L0, LR, Rl, dk, x0, xs, c1, c2, n0⟩ := p
  obtain ⟨m1, m2, m3, m4⟩ := mid_facts L0 LR hl hne hq hm
  obtain ⟨s0, se⟩ := shift_eq n0 m1 h2 hs
  rw [fdiv2] at hup
  have hp := p2pos sh.toNat
  rw [hk, p2succ] at dk
  subst hlen
  refine ⟨by omega, m2, Rl, by omega, ?_, ?_, c1, c2, n0⟩
  · subst hup; exact Int.ediv_nonneg x0 (Int.le_of_lt hp)
  · subst hup
    refine (Int.ediv_lt_iff_lt_mul hp).mpr ?_
    rw [← p2add, se, ← Nat.mul_add]
    have : (R - mid).toNat + (mid - L).toNat = (R - L).toNat := by omega
    rw [this]; exact xs
theorem sz_up {n x L R len q mid l1 q2 sh up : Int} {k : Nat} (p : PreA n x L R len k) (hup : up = x.fdiv (2 ^ sh.toNat)) (hs : sh = q2 * n) (h2 : q2 = mid - L) (hm : mid = q.fdiv (2 ^ (1 : Int).toNat)) (hq : q = L + R) (hl : l1 = L + 1) (hne : ¬ l1 = R) :
    (Builtin.Int.intBits up : Int) + sh ≤ 2 ^ 27 := by
  obtain ⟨j, hj⟩ := p.some hl hne
  have pu := preA_up p hj rfl hup hs h2 hm hq hl hne
  obtain ⟨L0, LR, Rl, dk, x0, xs, c1, c2, n0⟩ := p
  obtain ⟨m1, m2, m3, m4⟩ := mid_facts L0 LR hl hne hq hm
  obtain ⟨s0, se⟩ := shift_eq n0 m1 h2 hs
  have hb := bits_le (a := up) (by have := pu.x0; have := p2pos (n.toNat * (R - mid).toNat); omega) pu.xs
  have e1 : ((n.toNat * (R - mid).toNat : Nat) : Int) = n * (R - mid) := by
    rw [Int.natCast_mul, Int.toNat_of_nonneg (by omega), Int.toNat_of_nonneg (by omega)]
  have e2 : sh = n * (mid - L) := by rw [hs, h2, Int.mul_comm]
  have e3 : n * (R - mid) + n * (mid - L) = n * (R - L) := by rw [← Int.mul_add]; congr 1; omega
  have e4 : n * (R - L) ≤ n * len := Int.mul_le_mul_of_nonneg_left (by omega) (by omega)
  omega
theorem nn_sh {n x L R len q mid l1 q2 sh : Int} {k : Nat} (p : PreA n x L R len k) (hs : sh = q2 * n) (h2 : q2 = mid - L) (hm : mid = q.fdiv (2 ^ (1 : Int).toNat)) (hq : q = L + R) (hl : l1 = L + 1) (hne : ¬ l1 = R) : 0 ≤ sh :=
  (shift_eq p.n0 (mid_facts p.L0 p.LR hl hne hq hm).1 h2 hs).1
theorem ml_sh {n x L R len q mid l1 q2 : Int} {k : Nat} (p : PreA n x L R len k) (h2 : q2 = mid - L) (hm : mid = q.fdiv (2 ^ (1 : Int).toNat)) (hq : q = L + R) (hl : l1 = L + 1) (hne : ¬ l1 = R) : IntMulOk q2 n := by
  have := mid_facts p.L0 p.LR hl hne hq hm
  have := p.Rl; have := p.l1; have := p.L0
  exact IntMulOk.of_left (intBits_le_64 (by omega) (by omega))
/-- both halves stored -/
theorem put_both {n x L R len q mid l1 q2 sh up us lo : Int} {k : Nat} {ns : List Int} (p : PreA n x L R len k) (hlen : (ns.length : Int) = len) (hlo : lo = Builtin.bitXor x us) (hus : us = up * 2 ^ sh.toNat) (hup : up = x.fdiv (2 ^ sh.toNat)) (hs : sh = q2 * n) (h2 : q2 = mid - L) (hm : mid = q.fdiv (2 ^ (1 : Int).toNat)) (hq : q = L + R) (hl : l1 = L + 1) (hne : ¬ l1 = R) :
    putAt (putAt ns L.toNat (digs n.toNat lo (mid - L).toNat)) mid.toNat (digs n.toNat up (R - mid).toNat) = putAt ns L.toNat (digs n.toNat x (R - L).toNat) := by
  obtain ⟨L0, LR, Rl, dk, x0, xs, c1, c2, n0⟩ := p
  obtain ⟨m1, m2, m3, m4⟩ := mid_facts L0 LR hl hne hq hm
  obtain ⟨s0, se⟩ := shift_eq n0 m1 h2 hs
  rw [fdiv2] at hup
  rw [hus, hup, xor_low _ x0] at hlo
  have e1 : (R - L).toNat = (mid - L).toNat + (R - mid).toNat := by omega
  rw [e1, digs_add, ← se, ← hlo, ← hup]
  have e2 : mid.toNat = L.toNat + (digs n.toNat lo (mid - L).toNat).length := by rw [digs_len]; omega
  rw [e2]
  exact putAt_two (by rw [digs_len, digs_len]; omega)
theorem put_one {n x L R len l1 : Int} {k : Nat} {ns : List Int} (p : PreA n x L R len k) (hlen : (ns.length : Int) = len) (hl : l1 = L + 1) (he : l1 = R) : ns.set L.toNat x = putAt ns L.toNat (digs n.toNat x (R - L).toNat) := by
  obtain ⟨L0, LR, Rl, dk, x0, xs, c1, c2, n0⟩ := p
  have e1 : (R - L).toNat = 1 := by omega
  rw [e1, Nat.mul_one] at xs
  rw [e1, digs_one _ x0 xs]
  exact putAt_one (by omega)
theorem put_len {n lo L mid len : Int} {ns : List Int} {j : Nat} (p : PreA n lo L mid len j) (hlen : (ns.length : Int) = len) : ((putAt ns L.toNat (digs n.toNat lo (mid - L).toNat)).length : Int) = len := by
  rw [putAt_len, hlen]
  rw [digs_len]
  have := p.L0; have := p.LR; have := p.Rl
  omega

theorem ints_one {n x L R l1 : Int} {k : Nat} {ns : List Int} {vs' : List Value} (p : PreA n x L R (ns.length : Int) k) (hl : l1 = L + 1) (he : l1 = R) (hi : IntsAre vs' (ns.set L.toNat x)) : IntsAre vs' (putAt ns L.toNat (digs n.toNat x (R - L).toNat)) :=
  put_one p rfl hl he ▸ hi
theorem ints_two {n x L R q mid l1 q2 sh up us lo : Int} {k : Nat} {ns : List Int} {vs' : List Value} (p : PreA n x L R (ns.length : Int) k)
    (hi : IntsAre vs' (putAt (putAt ns L.toNat (digs n.toNat lo (mid - L).toNat)) mid.toNat (digs n.toNat up (R - mid).toNat))) (hlo : lo = Builtin.bitXor x us) (hus : us = up * 2 ^ sh.toNat) (hup : up = x.fdiv (2 ^ sh.toNat)) (hs : sh = q2 * n) (h2 : q2 = mid - L) (hm : mid = q.fdiv (2 ^ (1 : Int).toNat)) (hq : q = L + R) (hl : l1 = L + 1) (hne : ¬ l1 = R) :
    IntsAre vs' (putAt ns L.toNat (digs n.toNat x (R - L).toNat)) := put_both p rfl hlo hus hup hs h2 hm hq hl hne ▸ hi
theorem bits_pos {x : Int} (hx : x ≠ 0) : 1 ≤ Builtin.Int.intBits x := by
  unfold Builtin.Int.intBits
  have : (x == 0) = false := by simpa using hx
  rw [this]; simp
theorem bits_zero : Builtin.Int.intBits 0 = 0 := by decide +kernel
/-- the figures' number is enough -/
theorem ceil_facts {n q1 q2 m : Int} {b : Nat} (hn : 0 < n) (h1 : q1 = (b : Int) + n) (h2 : q2 = q1 - 1) (h3 : m = q2 / n) (hb : b ≤ 200000) (hn2 : n ≤ 64000) :
    0 ≤ m ∧ m ≤ 200000 ∧ (b : Int) ≤ n * m ∧ n * m ≤ 264000 ∧ (1 ≤ b → 1 ≤ m) ∧ (b = 0 → m = 0) := by
  subst h1 h2 h3
  have d1 := Int.mul_ediv_add_emod ((b : Int) + n - 1) n
  have d2 := Int.emod_nonneg ((b : Int) + n - 1) (Int.ne_of_gt hn)
  have d3 := Int.emod_lt_of_pos ((b : Int) + n - 1) hn
  have d4 : 0 ≤ ((b : Int) + n - 1) / n := Int.ediv_nonneg (by omega) (by omega)
  have d5 : ((b : Int) + n - 1) / n ≤ 200000 := by
    refine Int.le_of_lt_add_one ((Int.ediv_lt_iff_lt_mul hn).mpr ?_)
    have : (200000 + 1 : Int) * n = 200000 * n + n := by rw [Int.add_mul, Int.one_mul]
    have : (200000 : Int) * 1 ≤ 200000 * n := Int.mul_le_mul_of_nonneg_left (by omega) (by decide)
    omega
  refine ⟨d4, d5, by omega, by omega, fun hb1 => ?_, fun hb0 => ?_⟩
  · rcases Int.lt_or_le 0 (((b : Int) + n - 1) / n) with h | h
    · omega
    · have : ((b : Int) + n - 1) / n = 0 := by omega
      rw [this] at d1; omega
  · subst hb0
    exact Int.ediv_eq_zero_of_lt (by omega) (by omega)
theorem x_lt_pow {x n m : Int} (hx : 0 ≤ x) (hn : 0 < n) (hm : 0 ≤ m) (h : (Builtin.Int.intBits x : Int) ≤ n * m) : x < 2 ^ (n.toNat * m.toNat) := by
  refine bits_lt hx ?_
  have e : n * m = ((n.toNat * m.toNat : Nat) : Int) := by
    rw [Int.natCast_mul, Int.toNat_of_nonneg (by omega), Int.toNat_of_nonneg hm]
  omega
theorem preA_top {x n q1 q2 m R : Int} (hn : 0 < n) (h1 : q1 = (Builtin.Int.intBits x : Int) + n) (h2 : q2 = q1 - 1) (h3 : m = q2 / n) (hR : R = ((List.replicate m.toNat (0 : Int)).length : Int)) (hb : Builtin.Int.intBits x ≤ 200000) (hn2 : n ≤ 64000) (hx : 0 ≤ x) (hx0 : x ≠ 0) :
    PreA n x 0 R ((List.replicate m.toNat (0 : Int)).length : Int) 18 := by
  obtain ⟨f1, f2, f3, f4, f5, f6⟩ := ceil_facts hn h1 h2 h3 hb hn2
  rw [List.length_replicate] at hR ⊢
  have hRm : R = m := by omega
  have := f5 (bits_pos hx0)
  have e18 : (2 : Int) ^ 18 = 262144 := rfl
  refine ⟨Int.le_refl _, by omega, by omega, by omega, hx, ?_, by omega, ?_, hn⟩
  · rw [hRm, Int.sub_zero]; exact x_lt_pow hx hn f1 f3
  · rw [Int.toNat_of_nonneg f1]; omega
theorem top_ints {x n m R : Int} {vs' : List Value} (hm : 0 ≤ m) (hR : R = ((List.replicate m.toNat (0 : Int)).length : Int)) (hi : IntsAre vs' (putAt (List.replicate m.toNat 0) (0 : Int).toNat (digs n.toNat x (R - 0).toNat))) : IntsAre vs' (digs n.toNat x m.toNat) := by
  rw [List.length_replicate] at hR
  have e : (R - 0).toNat = m.toNat := by omega
  rw [e] at hi
  have e2 : (0 : Int).toNat = 0 := rfl
  rw [e2, putAt_all (by rw [digs_len, List.length_replicate])] at hi
  exact hi
theorem top_zero {n q1 q2 m x : Int} (hn : 0 < n) (h1 : q1 = (Builtin.Int.intBits x : Int) + n) (h2 : q2 = q1 - 1) (h3 : m = q2 / n) (hn2 : n ≤ 64000) (hx : x = 0) : m = 0 := by
  subst hx
  rw [bits_zero] at h1
  exact (ceil_facts (b := 0) hn h1 h2 h3 (by decide) hn2).2.2.2.2.2 rfl

/-- what the inner def of _digits2int asks -/
structure PreD (n L R len : Int) (k : Nat) : Prop where
  L0 : 0 ≤ L
  LR : L < R
  Rl : R ≤ len
  dk : R - L ≤ 2 ^ k
  l1 : len ≤ 2 ^ 24
  l2 : n * len ≤ 2 ^ 26
  n0 : 0 < n
def seg (ns : List Int) (L R : Int) : List Int := (ns.drop L.toNat).take (R - L).toNat
theorem PreD.some {n L R len : Int} {k : Nat} (p : PreD n L R len k) {l1 : Int} (hl : l1 = L + 1) (hne : ¬ l1 = R) : ∃ j, k = j + 1 := by
  cases k with
  | zero => have := p.dk; have := p.LR; simp at *; omega
  | succ j => exact ⟨j, rfl⟩
theorem preD_low {n L R len q mid l1 : Int} {k j : Nat} (p : PreD n L R len k) (hk : k = j + 1) (hm : mid = q.fdiv (2 ^ (1 : Int).toNat)) (hq : q = L + R) (hl : l1 = L + 1) (hne : ¬ l1 = R) : PreD n L mid len j := by
  obtain ⟨L0, LR, Rl, dk, c1, c2, n0⟩ := p
  obtain ⟨m1, m2, m3, m4⟩ := mid_facts L0 LR hl hne hq hm
  rw [hk, p2succ] at dk
  exact ⟨L0, m1, by omega, by omega, c1, c2, n0⟩
theorem preD_up {n L R len q mid l1 : Int} {k j : Nat} (p : PreD n L R len k) (hk : k = j + 1) (hm : mid = q.fdiv (2 ^ (1 : Int).toNat)) (hq : q = L + R) (hl : l1 = L + 1) (hne : ¬ l1 = R) : PreD n mid R len j := by
  obtain ⟨L0, LR, Rl, dk, c1, c2, n0⟩ := p
  obtain ⟨m1, m2, m3, m4⟩ := mid_facts L0 LR hl hne hq hm
  rw [hk, p2succ] at dk
  exact ⟨by omega, m2, Rl, by omega, c1, c2, n0⟩
theorem seg_len {ns : List Int} {L R : Int} (h0 : 0 ≤ L) (h : L ≤ R) (hR : R ≤ (ns.length : Int)) : (seg ns L R).length = (R - L).toNat := by
  unfold seg
  rw [List.length_take, List.length_drop]
  omega
theorem seg_split {ns : List Int} {L mid R : Int} (h0 : 0 ≤ L) (h : L < mid) (h2 : mid < R) : seg ns L R = seg ns L mid ++ seg ns mid R := by
  unfold seg
  have e1 : (R - L).toNat = (mid - L).toNat + (R - mid).toNat := by omega
  have e2 : mid.toNat = L.toNat + (mid - L).toNat := by omega
  rw [e1, List.take_add, List.drop_drop, e2]
  try (congr 3; omega)
theorem seg_mem {ns : List Int} {L R : Int} : ∀ d ∈ seg ns L R, d ∈ ns := fun _ h => List.mem_of_mem_drop (List.mem_of_mem_take h)
theorem seg_one {ns : List Int} {L R l1 : Int} (h0 : 0 ≤ L) (hR : R ≤ (ns.length : Int)) (hl : l1 = L + 1) (he : l1 = R) : seg ns L R = [ns.getD L.toNat 0] := by
  unfold seg
  have e : (R - L).toNat = 1 := by omega
  have hlt : L.toNat < ns.length := by omega
  rw [e, List.drop_eq_getElem_cons hlt, List.take_succ_cons, List.take_zero, List.getD_eq_getElem?_getD, List.getElem?_eq_getElem hlt]
  rfl
theorem seg_all {ns : List Int} {R : Int} (hR : R = (ns.length : Int)) : seg ns 0 R = ns := by
  unfold seg
  rw [hR]
  simp
theorem undig_one {n : Nat} {ns : List Int} {L R l1 v : Int} (h0 : 0 ≤ L) (hR : R ≤ (ns.length : Int)) (hl : l1 = L + 1) (he : l1 = R) (hv : v = ns.getD L.toNat 0) : v = undigs n (seg ns L R) := by
  rw [seg_one h0 hR hl he, undigs, undigs, hv]
  omega
theorem undig_two {n : Int} {ns : List Int} {k : Nat} {L R l1 q mid q2 sh a b sa v : Int} (p : PreD n L R (ns.length : Int) k) (hv : v = sa + b) (hsa : sa = a * 2 ^ sh.toNat) (ha : a = undigs n.toNat (seg ns mid R)) (hb : b = undigs n.toNat (seg ns L mid)) (hs : sh = q2 * n) (h2 : q2 = mid - L) (hm : mid = q.fdiv (2 ^ (1 : Int).toNat)) (hq : q = L + R) (hl : l1 = L + 1) (hne : ¬ l1 = R) :
    v = undigs n.toNat (seg ns L R) := by
  obtain ⟨L0, LR, Rl, dk, c1, c2, n0⟩ := p
  obtain ⟨m1, m2, m3, m4⟩ := mid_facts L0 LR hl hne hq hm
  obtain ⟨s0, se⟩ := shift_eq n0 m1 h2 hs
  rw [seg_split L0 m1 m2, undigs_append, seg_len L0 (by omega) (by omega), ← se, hv, hsa, ← ha, ← hb, Int.mul_comm]
  omega
theorem nn_shD {n L R len q mid l1 q2 sh : Int} {k : Nat} (p : PreD n L R len k) (hs : sh = q2 * n) (h2 : q2 = mid - L) (hm : mid = q.fdiv (2 ^ (1 : Int).toNat)) (hq : q = L + R) (hl : l1 = L + 1) (hne : ¬ l1 = R) : 0 ≤ sh :=
  (shift_eq p.n0 (mid_facts p.L0 p.LR hl hne hq hm).1 h2 hs).1
theorem ml_shD {n L R len q mid l1 q2 : Int} {k : Nat} (p : PreD n L R len k) (h2 : q2 = mid - L) (hm : mid = q.fdiv (2 ^ (1 : Int).toNat)) (hq : q = L + R) (hl : l1 = L + 1) (hne : ¬ l1 = R) : IntMulOk q2 n := by
  have := mid_facts p.L0 p.LR hl hne hq hm
  have := p.Rl; have := p.l1; have := p.L0
  exact IntMulOk.of_left (intBits_le_64 (by omega) (by omega))
theorem sz_upD {n L R q mid l1 q2 sh a : Int} {k : Nat} {ns : List Int} (p : PreD n L R (ns.length : Int) k) (hr : ∀ d ∈ ns, 0 ≤ d ∧ d < 2 ^ n.toNat) (ha : a = undigs n.toNat (seg ns mid R)) (hs : sh = q2 * n) (h2 : q2 = mid - L) (hm : mid = q.fdiv (2 ^ (1 : Int).toNat)) (hq : q = L + R) (hl : l1 = L + 1) (hne : ¬ l1 = R) :
    (Builtin.Int.intBits a : Int) + sh ≤ 2 ^ 27 := by
  obtain ⟨L0, LR, Rl, dk, c1, c2, n0⟩ := p
  obtain ⟨m1, m2, m3, m4⟩ := mid_facts L0 LR hl hne hq hm
  obtain ⟨s0, se⟩ := shift_eq n0 m1 h2 hs
  have hu := undigs_range n.toNat (seg ns mid R) fun d hd => hr d (seg_mem d hd)
  rw [seg_len (by omega) (by omega) Rl, ← ha] at hu
  have hb := bits_le (a := a) (by have := p2pos (n.toNat * (R - mid).toNat); omega) hu.2
  have e1 : ((n.toNat * (R - mid).toNat : Nat) : Int) = n * (R - mid) := by
    rw [Int.natCast_mul, Int.toNat_of_nonneg (by omega), Int.toNat_of_nonneg (by omega)]
  have e2 : sh = n * (mid - L) := by rw [hs, h2, Int.mul_comm]
  have e3 : n * (R - mid) + n * (mid - L) = n * (R - L) := by rw [← Int.mul_add]; congr 1; omega
  have e4 : n * (R - L) ≤ n * (ns.length : Int) := Int.mul_le_mul_of_nonneg_left (by omega) (by omega)
  omega
end Mine
end
section
open PySem PySem.W PyProof.Rows
namespace Mine
def bv (n : Nat) (ds : List Int) : Int := undigs n ds.reverse
theorem bv_snoc (n : Nat) (ds : List Int) (d : Int) : bv n (ds ++ [d]) = d + 2 ^ n * bv n ds := by
  unfold bv
  rw [List.reverse_append]
  rfl
structure InvP (n b r : Int) (P qs : List Int) : Prop where
  r0 : 0 ≤ r
  rb : r < b
  eq : bv n.toNat qs * b + r = bv n.toNat P
  rg : ∀ d ∈ qs, 0 ≤ d ∧ d < 2 ^ n.toNat
  len : qs.length = P.length
theorem inv_start {n b : Int} (hb : 0 < b) : InvP n b 0 [] [] := ⟨Int.le_refl _, hb, by simp [bv, undigs], fun _ h => (by cases h), rfl⟩
theorem bits_top {b n : Int} (hb : 0 < b) (hn : n = (Builtin.Int.intBits b : Int)) : b < 2 ^ n.toNat ∧ 2 ^ n.toNat ≤ 2 * b ∧ 0 < n := by
  have hp := bits_pos (Int.ne_of_gt hb)
  have e : n.toNat = Builtin.Int.intBits b := by omega
  refine ⟨by rw [e]; exact bits_lt (Int.le_of_lt hb) (Nat.le_refl _), ?_, by omega⟩
  have e2 : n.toNat = b.natAbs.log2 + 1 := by
    rw [e]
    unfold Builtin.Int.intBits
    have : (b == 0) = false := by simpa using Int.ne_of_gt hb
    rw [this]; simp
  rw [e2, p2succ]
  have := Nat.log2_self_le (n := b.natAbs) (by omega)
  have hc := kbt_cast b.natAbs.log2
  omega
theorem inv_pre {n b r d s a' : Int} {P qs : List Int} (i : InvP n b r P qs) (hb : 0 < b) (hn : n = (Builtin.Int.intBits b : Int)) (hn2 : n ≤ 64000) (h0 : 0 ≤ d) (h1 : d < 2 ^ n.toNat) (hs : s = r * 2 ^ n.toNat) (ha : a' = s + d) : Pre2 64000 a' b n := by
  obtain ⟨t1, t2, t3⟩ := bits_top hb hn
  have hp := p2pos n.toNat
  subst hs
  have := Int.mul_nonneg i.r0 (Int.le_of_lt hp)
  exact ⟨by omega, hn2, hb, t1, t2, by omega, by rw [ha]; exact mul_lt_of hp i.rb h1⟩
theorem inv_step {n b r d s a' q' r' : Int} {P qs : List Int} (i : InvP n b r P qs) (hb : 0 < b) (hn : n = (Builtin.Int.intBits b : Int)) (hn2 : n ≤ 64000) (h0 : 0 ≤ d) (h1 : d < 2 ^ n.toNat) (hs : s = r * 2 ^ n.toNat) (ha : a' = s + d) (hq : q' = a' / b) (hr : r' = a' % b) : InvP n b r' (P ++ [d]) (qs ++ [q']) := by
  have p2 := inv_pre i hb hn hn2 h0 h1 hs ha
  have hp := p2pos n.toNat
  have hd := Int.mul_ediv_add_emod a' b
  rw [← hq, ← hr] at hd
  obtain ⟨i1, i2, i3, i4, i5⟩ := i
  refine ⟨by subst hr; exact Int.emod_nonneg _ (Int.ne_of_gt hb), by subst hr; exact Int.emod_lt_of_pos _ hb, ?_, ?_, ?_⟩
  · rw [bv_snoc, bv_snoc, ← i3]
    generalize bv n.toNat qs = v at *
    generalize (2 : Int) ^ n.toNat = H at *
    subst hs
    grind
  · intro e he
    rcases List.mem_append.mp he with he | he
    · exact i4 e he
    · rw [List.mem_singleton.mp he]
      refine ⟨by subst hq; exact Int.ediv_nonneg p2.a0 (Int.le_of_lt hb), ?_⟩
      subst hq
      exact (Int.ediv_lt_iff_lt_mul hb).mpr (by have := p2.an; rw [Int.mul_comm b] at this; exact this)
  · rw [List.length_append, List.length_append, i5]; rfl
theorem inv_size {n b r : Int} {P qs : List Int} (i : InvP n b r P qs) (hb : 0 < b) (hn : n = (Builtin.Int.intBits b : Int)) (hn2 : n ≤ 64000) : (Builtin.Int.intBits r : Int) + n ≤ 2 ^ 27 := by
  obtain ⟨t1, t2, t3⟩ := bits_top hb hn
  have hp := p2pos n.toNat
  have := bits_le (a := r) (k := n.toNat) (by have := i.r0; omega) (by have := i.rb; omega)
  omega
theorem inv_end {n b r a : Int} {k : Nat} {qs : List Int} (i : InvP n b r (digs n.toNat a k).reverse qs) (hb : 0 < b) (ha : 0 ≤ a) (hk : a < 2 ^ (n.toNat * k)) : undigs n.toNat qs.reverse = a / b ∧ r = a % b := by
  have e := i.eq
  unfold bv at e
  rw [List.reverse_reverse, undigs_digs, Int.emod_eq_of_lt ha hk] at e
  exact div_unique hb e i.r0 i.rb
end Mine
end
section
open PySem PySem.W PyProof.Rows PySem.Calls
set_option maxRecDepth 100000
namespace Mine
section
variable {prog : Program} {w : World} {A : Around} {E : Value → Shared → Prop} {s : Shared} {a b n : Int} {t u : Tok} {Q : Value → Shared → Prop}
theorem r_add (h : ∀ q : Int, q = a + b → Q (.int q s.toks) { s with toks := s.toks + 1 }) : wpAny (model prog w) A (binaryOp .Add (.int a t) (.int b u)) Q E s := add_int (h _ rfl)
theorem r_sub (h : ∀ q : Int, q = a - b → Q (.int q s.toks) { s with toks := s.toks + 1 }) : wpAny (model prog w) A (binaryOp .Sub (.int a t) (.int b u)) Q E s := PyProof.Rows.sub_int (h _ rfl)
theorem r_mul (hm : IntMulOk a b) (h : ∀ q : Int, q = a * b → Q (.int q s.toks) { s with toks := s.toks + 1 }) : wpAny (model prog w) A (binaryOp .Mult (.int a t) (.int b u)) Q E s := mul_int (h _ rfl) hm
theorem r_shl (hn : 0 ≤ n) (hs : (Builtin.Int.intBits a : Int) + n ≤ 2 ^ 27) (h : ∀ q : Int, q = a * 2 ^ n.toNat → Q (.int q s.toks) { s with toks := s.toks + 1 }) : wpAny (model prog w) A (binaryOp .LShift (.int a t) (.int n u)) Q E s := lshift_int hn hs (h _ rfl)
theorem r_ishl (hn : 0 ≤ n) (hs : (Builtin.Int.intBits a : Int) + n ≤ 2 ^ 27) (h : ∀ q : Int, q = a * 2 ^ n.toNat → Q (.int q s.toks) { s with toks := s.toks + 1 }) : wpAny (model prog w) A (inplaceOp .LShift (.int a t) (.int n u)) Q E s := ilshift_int hn hs (h _ rfl)
theorem r_shr (hn : 0 ≤ n) (h : ∀ q : Int, q = a.fdiv (2 ^ n.toNat) → Q (.int q s.toks) { s with toks := s.toks + 1 }) : wpAny (model prog w) A (binaryOp .RShift (.int a t) (.int n u)) Q E s := rshift_int hn (h _ rfl)
theorem r_ishr (hn : 0 ≤ n) (h : ∀ q : Int, q = a.fdiv (2 ^ n.toNat) → Q (.int q s.toks) { s with toks := s.toks + 1 }) : wpAny (model prog w) A (inplaceOp .RShift (.int a t) (.int n u)) Q E s := irshift_int hn (h _ rfl)
theorem r_and (h : ∀ q : Int, q = Builtin.bitAnd a b → Q (.int q s.toks) { s with toks := s.toks + 1 }) : wpAny (model prog w) A (binaryOp .BitAnd (.int a t) (.int b u)) Q E s := and_int (h _ rfl)
theorem r_or (h : ∀ q : Int, q = Builtin.bitOr a b → Q (.int q s.toks) { s with toks := s.toks + 1 }) : wpAny (model prog w) A (binaryOp .BitOr (.int a t) (.int b u)) Q E s := or_int (h _ rfl)
theorem r_xor (h : ∀ q : Int, q = Builtin.bitXor a b → Q (.int q s.toks) { s with toks := s.toks + 1 }) : wpAny (model prog w) A (binaryOp .BitXor (.int a t) (.int b u)) Q E s := xor_int (h _ rfl)
theorem r_iadd (h : ∀ q : Int, q = a + b → Q (.int q s.toks) { s with toks := s.toks + 1 }) : wpAny (model prog w) A (inplaceOp .Add (.int a t) (.int b u)) Q E s := PyProof.Rows.iadd_int (h _ rfl)
theorem r_isub (h : ∀ q : Int, q = a - b → Q (.int q s.toks) { s with toks := s.toks + 1 }) : wpAny (model prog w) A (inplaceOp .Sub (.int a t) (.int b u)) Q E s := PyProof.Rows.isub_int (h _ rfl)
theorem r_divmod {h₀ : Heap} {L : Addr} {m : Str → Option Value} {news : List (Addr × Obj)} (F : Fr h₀ L s.heap m) (N : News h₀ L s.heap news) (hb : b ≠ 0)
    (hp : Builtin.divisionGoesByPylong a b = false ∨ PySem.PylongRoom (model prog w) A s)
    (h : ∀ (x y : Int) h', x = a.fdiv b → y = a.fmod b → Fr h₀ L h' m → News h₀ L h' ((s.heap.objs.size, { cls := .type "tuple", data := .seq #[.int x s.toks, .int y (s.toks + 1)] }) :: news) → (∀ p ∈ news, p.1 < s.heap.objs.size) →
      Q (.ref s.heap.objs.size) { s with toks := s.toks + 1 + 1, heap := h' }) :
    wpAny (model prog w) A (call (.builtin "divmod") [.int a t, .int b u]) Q E s :=
  divmod_N F N hb (fun h' F' N' => h _ _ h' rfl rfl F' N' (fun p hp => Heap.lt_size (N p hp).1)) hp
end

/-- what a call of a def of this text gives: two ints in a new tuple -/
def Ret2 (h₀ : Heap) (L : Addr) (m : Str → Option Value) (news : List (Addr × Obj)) (s : Shared) (Q : Value → Shared → Prop) (P : Int → Int → Prop) : Prop :=
  ∀ (x y : Int) (D : Addr) (t u : Tok) (c : Nat) (h' : Heap) (tk' : Nat), P x y → Fr h₀ L h' m → News h₀ L h' ((D, ({ cls := .type "tuple", data := .seq #[.int x t, .int y u] c } : Obj)) :: news) → (∀ p ∈ news, p.1 < D) → Q (.ref D) { s with heap := h', toks := tk' }
def Ret1 (h₀ : Heap) (L : Addr) (m : Str → Option Value) (news : List (Addr × Obj)) (s : Shared) (Q : Value → Shared → Prop) (P : Int → Prop) : Prop :=
  ∀ (x : Int) (t : Tok) (h' : Heap) (tk' : Nat), P x → Fr h₀ L h' m → News h₀ L h' news → Q (.int x t) { s with heap := h', toks := tk' }
end Mine
namespace Mine
section
variable {prog : Program} {w : World} {A : Around} {E : Value → Shared → Prop} {s : Shared} {a b n : Int} {t u : Tok} {Q : Value → Shared → Prop}
theorem r_modp (hb : 0 < b) (h : ∀ q : Int, q = a % b → 0 ≤ q → q < b → Q (.int q s.toks) { s with toks := s.toks + 1 }) : wpAny (model prog w) A (binaryOp .Mod (.int a t) (.int b u)) Q E s :=
  PyProof.Rows.mod_int (Int.ne_of_gt hb) (h _ (fmodp hb) (by rw [fmodp hb]; exact Int.emod_nonneg _ (Int.ne_of_gt hb)) (by rw [fmodp hb]; exact Int.emod_lt_of_pos _ hb))
theorem r_fdivp (hb : 0 < b) (hb2 : b < 2 ^ 29) (h : ∀ q : Int, q = a / b → Q (.int q s.toks) { s with toks := s.toks + 1 }) : wpAny (model prog w) A (binaryOp .FloorDiv (.int a t) (.int b u)) Q E s :=
  floordiv_int (Int.ne_of_gt hb) (h _ (fdivp hb)) (Or.inl (PyProof.noPylong_small (by omega)))
end
end Mine

namespace Mine
section
variable {prog : Program} {w : World} {A : Around} {E : Value → Shared → Prop} {s : Shared} {Q : Value → Shared → Prop}
theorem ints_rep0 (t : Tok) : ∀ k : Nat, IntsAre (List.replicate k (Value.int 0 t)) (List.replicate k 0)
  | 0 => .nil
  | k + 1 => .cons 0 t (ints_rep0 t k)
theorem flat_rep (v : Value) : ∀ k : Nat, (List.replicate k [v]).flatten = List.replicate k v
  | 0 => rfl
  | k + 1 => by rw [List.replicate_succ, List.flatten_cons, flat_rep v k]; rfl
/-- a list of one nought, repeated -/
theorem r_rep {h₀ : Heap} {L : Addr} {m : Str → Option Value} {news : List (Addr × Obj)} {l : Addr} {x : Int} {t u : Tok} {c : Nat} (F : Fr h₀ L s.heap m) (N : News h₀ L s.heap news) (hm : (l, listOf #[Value.int 0 t] c) ∈ news) (h0 : 0 ≤ x) (h1 : x ≤ 2 ^ 24)
    (h : ∀ (D : Addr) (vs : List Value) (h' : Heap), IntsAre vs (List.replicate x.toNat 0) → Fr h₀ L h' m → News h₀ L h' ((D, listOf vs.toArray 0) :: news) → (∀ p ∈ news, p.1 < D) → Q (.ref D) { s with heap := h' }) :
    wpAny (model prog w) A (binaryOp .Mult (.ref l) (.int x u)) Q E s := by
  refine KM.mul (vs := [.int 0 t]) (ns := [0]) F N (News.isList N hm) (.cons 0 t .nil) (by omega) (by omega) (by simp; omega) fun D h' F' N' l1 _ _ _ _ _ _ => ?_
  rw [flat_rep] at N'
  exact h D _ h' (ints_rep0 t _) F' N' l1
end
end Mine

namespace Mine
section
variable {prog : Program} {w : World} {A : Around} {E : Value → Shared → Prop} {s : Shared} {Q : Value → Shared → Prop}
theorem r_len {h₀ : Heap} {L : Addr} {news : List (Addr × Obj)} {l : Addr} {vs : List Value} {ns : List Int} {c : Nat} (N : News h₀ L s.heap news) (hm : (l, listOf vs.toArray c) ∈ news) (hI : IntsAre vs ns) (hl : ns.length < 2 ^ 62)
    (h : ∀ q : Int, q = (ns.length : Int) → Q (.int q (s.toks + 1)) { s with toks := s.toks + 1 + 1 }) : wpAny (model prog w) A (call (.builtin "len") [.ref l]) Q E s :=
  KM.len_K N hm (by rw [List.size_toArray, hI.length]) hl (h _ rfl)
end
end Mine
namespace Mine
section
variable {prog : Program} {w : World} {A : Around} {E : Value → Shared → Prop} {s : Shared}
theorem r_truthy {Q : Bool → Shared → Prop} {h₀ : Heap} {L : Addr} {news : List (Addr × Obj)} {l : Addr} {vs : List Value} {ns : List Int} {c : Nat} (N : News h₀ L s.heap news) (hm : (l, listOf vs.toArray c) ∈ news) (hI : IntsAre vs ns) (hl : ns.length < 2 ^ 62)
    (h1 : ns ≠ [] → Q true { s with toks := s.toks + 1 + 1 }) (h2 : ns = [] → Q false { s with toks := s.toks + 1 + 1 }) : wpAny (model prog w) A (truthy (.ref l)) Q E s := by
  refine wpAny_truthy_list (News.isList N hm) (by rw [List.size_toArray, hI.length]; omega) ?_
  cases hI with
  | nil => exact h2 rfl
  | cons _ _ _ => exact h1 (by simp)
theorem r_append {Q : Value → Shared → Prop} {h₀ : Heap} {L D : Addr} {m : Str → Option Value} {news news' : List (Addr × Obj)} {vs : List Value} {ns : List Int} {c : Nat} {x : Int} {t : Tok} (F : Fr h₀ L s.heap m) (N : News h₀ L s.heap news) (hI : IntsAre vs ns) (hl : ns.length < 2 ^ 24)
    (U : Upd D (listOf vs.toArray c) (listOf (vs ++ [Value.int x t]).toArray (c + 1)) news news')
    (h : ∀ h', IntsAre (vs ++ [Value.int x t]) (ns ++ [x]) → Fr h₀ L h' m → News h₀ L h' news' → Q .none { s with heap := h' }) : wpAny (model prog w) A (call (.builtin "list.append") [.ref D, .int x t]) Q E s :=
  append_K F N (by rw [List.push_toArray]; exact U) (fun h' => h h' (IntsAre.append hI (.cons x t .nil))) (by rw [List.size_toArray, hI.length, sizeLine_eq]; omega)
theorem ints_reverse {vs : List Value} {ns : List Int} (h : IntsAre vs ns) : IntsAre vs.reverse ns.reverse := by
  induction h with
  | nil => exact .nil
  | cons n t _ ih => rw [List.reverse_cons, List.reverse_cons]; exact IntsAre.append ih (.cons n t .nil)
theorem r_reverse {Q : Value → Shared → Prop} {h₀ : Heap} {L D : Addr} {m : Str → Option Value} {news news' : List (Addr × Obj)} {vs : List Value} {ns : List Int} {c : Nat} (F : Fr h₀ L s.heap m) (N : News h₀ L s.heap news) (hI : IntsAre vs ns) (hl : ns.length ≤ 2 ^ 24)
    (U : Upd D (listOf vs.toArray c) (listOf vs.reverse.toArray c) news news')
    (h : ∀ h', IntsAre vs.reverse ns.reverse → Fr h₀ L h' m → News h₀ L h' news' → Q .none { s with heap := h' }) : wpAny (model prog w) A (call (.builtin "list.reverse") [.ref D]) Q E s :=
  kl_reverse F N rfl U (by show vs.length ≤ sizeLine; rw [hI.length, sizeLine_eq]; omega) fun h' => h h' (ints_reverse hI)
end
end Mine
namespace Mine
section
variable {prog : Program} {w : World} {A : Around} {E : Value → Shared → Prop} {s : Shared} {a : Int} {t : Tok} {Q : Value → Shared → Prop}
theorem r_bitlen (h : ∀ q : Int, q = (Builtin.Int.intBits a : Int) → Q (.int q s.toks) { s with toks := s.toks + 1 }) : wpAny (model prog w) A (call (.builtin "int.bit_length") [.int a t]) Q E s := call_int_bit_length (h _ rfl)
end
end Mine

namespace Mine
section
variable {prog : Program} {w : World} {A : Around} {E : Value → Shared → Prop} {s : Shared} {a : Int} {t : Tok} {Q : Value → Shared → Prop}
theorem r_neg (h : ∀ q : Int, q = -a → Q (.int q s.toks) { s with toks := s.toks + 1 }) : wpAny (model prog w) A (unaryOp .USub (.int a t)) Q E s := PyProof.Rows.neg_int (h _ rfl)
theorem r_inv (h : ∀ q : Int, q = Builtin.bitNot a → Q (.int q s.toks) { s with toks := s.toks + 1 }) : wpAny (model prog w) A (unaryOp .Invert (.int a t)) Q E s := invert_int (h _ rfl)
end
end Mine
end
section
open PySem PySem.W PyProof.Rows PySem.Calls
set_option maxRecDepth 100000
namespace Mine
section
variable {σ : Type} {prog : Program} {w : World} {A : Around} {E : Value → Shared → Prop} {s : Shared} {env : Env} {h₀ : Heap} {x : Str} {body : List Stmt} {Q : Flow → Shared → Prop}
def RevEnd (h₀ : Heap) (L I : Addr) (it : Obj) (s : Shared) (Led : σ → List (Addr × Obj)) (Map : σ → Str → Option Value) (Inv : List Int → σ → Prop) (P : List Int) (s₂ : Shared) : Prop :=
  ∃ (c' : σ) (h' : Heap) (tk' : Nat), s₂ = { s with heap := h', toks := tk' } ∧ Fr h₀ L h' (Map c') ∧ News h₀ L h' ((I, it) :: Led c') ∧ (∀ p ∈ Led c', p.1 ≠ I) ∧ Inv P c'
def RevPost (h₀ : Heap) (L I : Addr) (it : Obj) (s : Shared) (Led : σ → List (Addr × Obj)) (Map : σ → Str → Option Value) (Inv : List Int → σ → Prop) (P : List Int) (Q : Flow → Shared → Prop) (f : Flow) (s₂ : Shared) : Prop :=
  match f with
  | .ret v => Q (.ret v) s₂
  | .brk => Q .next s₂
  | _ => RevEnd h₀ L I it s Led Map Inv P s₂
theorem offI_of {I : Addr} {it : Obj} : ∀ {l : List (Addr × Obj)}, (∀ p ∈ l, p.1 ≠ I) → OffI I it l
  | [], _ => trivial
  | p :: _, h => ⟨.inl (h p (.head _)), offI_of fun q hq => h q (.tail _ hq)⟩
/-- a loop over the items of a list from behind, by what holds of it -/
theorem rev_loop (Led : σ → List (Addr × Obj)) (Map : σ → Str → Option Value) (Inv : List Int → σ → Prop) (c₀ : σ) {ax I : Addr} {vs : List Value} {ns : List Int} {n : Nat} {m₀ : Str → Option Value}
    (hh : A.handled = none) (F : Fr h₀ env.locals s.heap m₀) (N : News h₀ env.locals s.heap ((I, revObj ax ((vs.length : Int) - 1)) :: Led c₀)) (hoff : ∀ p ∈ Led c₀, p.1 ≠ I) (hm : ∀ c, (ax, listOf vs.toArray n) ∈ Led c) (hi : IntsAre vs ns) (h0 : m₀ = Map c₀) (hp : Inv [] c₀)
    (turn : ∀ (c : σ) (P : List Int) (d : Int) (t : Tok) (it : Obj) (h : Heap) (tk : Nat), Inv P c → d ∈ ns → P.length < ns.length → (∀ p ∈ Led c, p.1 ≠ I) → Fr h₀ env.locals h (fun y => if y = x then some (.int d t) else Map c y) → News h₀ env.locals h ((I, it) :: Led c) →
      wpAny (model prog w) A (execs body env) (RevPost h₀ env.locals I it s Led Map Inv (P ++ [d]) Q) E { s with heap := h, toks := tk })
    (done : ∀ (c : σ) (h : Heap) (tk : Nat), Inv ns.reverse c → Fr h₀ env.locals h (Map c) → News h₀ env.locals h (Led c) → Q .next { s with heap := h, toks := tk }) :
    wpAny (model prog w) A (pyIter (.ref I)) (fun it s₂ => LoopAtV prog w A h₀ env x body Q E it s₂) E s := by
  refine iter_revUnr hh F N (offI_of hoff) (hm c₀) rfl rfl ?_
  have all : ∀ {rv : List Value} {rs : List Int}, IntsAre rv rs → ∀ (P : List Int) (c : σ) (m : Str → Option Value), P ++ rs = ns.reverse → Inv P c → m = Map c → (∀ p ∈ Led c, p.1 ≠ I) →
      RevRest prog w A E h₀ env x body Q s I (ax, listOf vs.toArray n) rv m (Led c) := by
    intro rv rs hr
    induction hr with
    | nil =>
      intro P c m hP hI hm' _ h tk F N
      rw [List.append_nil] at hP
      subst hP hm'
      exact done c h tk hI F N
    | cons d t _ ih =>
      rename_i vs' ns' _
      intro P c m hP hI hm' hof it h tk _ F N
      subst hm'
      have hd : d ∈ ns := by
        have : d ∈ ns.reverse := by rw [← hP]; simp
        simpa using this
      have hl : P.length < ns.length := by
        have := congrArg List.length hP
        simp at this; omega
      refine wpAny_mono (turn c P d t it h tk hI hd hl hof F N) (fun f s₂ hf => ?_) fun _ _ e => e
      have fin : RevEnd h₀ env.locals I it s Led Map Inv (P ++ [d]) s₂ → UnrEnd h₀ env.locals { s with heap := h, toks := tk } I it (fun m' n' => (ax, listOf vs.toArray n) ∈ n' ∧ RevRest prog w A E h₀ env x body Q s I (ax, listOf vs.toArray n) vs' m' n') s₂ := by
        rintro ⟨c', h', tk', e, F', N', ho, hI'⟩
        exact ⟨h', tk', Map c', Led c', e, F', N', ho, hm c', ih (P ++ [d]) c' _ (by rw [List.append_assoc]; exact hP) hI' rfl ho⟩
      cases f with
      | ret v => exact hf
      | brk => exact hf
      | next => exact fin hf
      | cont => exact fin hf
  exact all (ints_reverse hi) [] c₀ m₀ (by rw [List.nil_append]) hp h0 hoff
end
end Mine
end
section
open PySem PySem.W PyProof.Rows PySem.Calls
set_option maxRecDepth 100000
namespace Mine
structure StP where
  rr : Int
  tr : Tok
  u : Option Value
  w : Option Value
  qvs : List Value
  qns : List Int
  cnt : Nat
abbrev xR : Str := Str.ofString "r"
abbrev xQ : Str := Str.ofString "q_digit"
abbrev xA : Str := Str.ofString "a_digit"
def mapP (m₁ : Str → Option Value) (c : StP) : Str → Option Value := fun y => if y = xR then some (.int c.rr c.tr) else if y = xQ then c.u else if y = xA then c.w else m₁ y
def ledP (qa la : Addr) (vs : List Value) (lc : Nat) (tail : List (Addr × Obj)) (c : StP) : List (Addr × Obj) := (qa, listOf c.qvs.toArray c.cnt) :: (la, listOf vs.toArray lc) :: tail
def invP (n b : Int) (P : List Int) (c : StP) : Prop := InvP n b c.rr P c.qns ∧ IntsAre c.qvs c.qns
theorem mapP_eq {m₁ : Str → Option Value} {A B C A0 B0 C0 : Option Value} {r q a : Str} : (fun y => if y = r then A else if y = q then B else if y = a then C else if y = r then A0 else if y = q then B0 else if y = a then C0 else m₁ y) = (fun y => if y = r then A else if y = q then B else if y = a then C else m₁ y) := by
  funext y
  by_cases h1 : y = r
  · simp only [if_pos h1]
  · by_cases h2 : y = q
    · simp only [if_neg h1, if_pos h2]
    · by_cases h3 : y = a
      · simp only [if_neg h1, if_neg h2, if_pos h3]
      · simp only [if_neg h1, if_neg h2, if_neg h3]
theorem mapP_start {m₁ : Str → Option Value} {A : Option Value} {r q a : Str} (h : m₁ r = A) : m₁ = (fun y => if y = r then A else if y = q then m₁ q else if y = a then m₁ a else m₁ y) := by
  funext y
  by_cases h1 : y = r
  · rw [if_pos h1, h1, h]
  · by_cases h2 : y = q
    · rw [if_neg h1, if_pos h2, h2]
    · by_cases h3 : y = a
      · rw [if_neg h1, if_neg h2, if_pos h3, h3]
      · rw [if_neg h1, if_neg h2, if_neg h3]
section
variable {prog : Program} {wd : World} {A : Around} {E : Value → Shared → Prop} {s : Shared} {env : Env} {h₀ : Heap} {body : List Stmt} {Q : Flow → Shared → Prop}
abbrev TurnP (h₀ : Heap) (L I : Addr) (it : Obj) (s : Shared) (qa la : Addr) (vs : List Value) (lc : Nat) (tail : List (Addr × Obj)) (m₁ : Str → Option Value) (n b : Int) (P : List Int) (Q : Flow → Shared → Prop) : Flow → Shared → Prop :=
  RevPost h₀ L I it s (ledP qa la vs lc tail) (mapP m₁) (invP n b) P Q
theorem rev_loopP {m₁ : Str → Option Value} {la qa I : Addr} {vs : List Value} {ns : List Int} {lc c0 : Nat} {tail : List (Addr × Obj)} {b n : Int} {tr : Tok}
    (hh : A.handled = none) (F : Fr h₀ env.locals s.heap m₁) (N : News h₀ env.locals s.heap ((I, revObj la ((vs.length : Int) - 1)) :: (qa, listOf #[] c0) :: (la, listOf vs.toArray lc) :: tail))
    (hI : qa < I ∧ la < I ∧ AllLt I tail) (hq : la < qa ∧ AllLt qa tail) (hi : IntsAre vs ns) (hr : m₁ xR = some (.int 0 tr)) (hb : 0 < b) (hrg : ∀ d ∈ ns, 0 ≤ d ∧ d < 2 ^ n.toNat)
    (turn : ∀ (rr : Int) (tr : Tok) (u w : Option Value) (qvs : List Value) (qns : List Int) (cnt : Nat) (P : List Int) (d : Int) (t : Tok) (it : Obj) (h : Heap) (tk : Nat),
      InvP n b rr P qns → IntsAre qvs qns → 0 ≤ d → d < 2 ^ n.toNat → P.length < ns.length →
      Fr h₀ env.locals h (fun y => if y = xA then some (.int d t) else if y = xR then some (.int rr tr) else if y = xQ then u else if y = xA then w else m₁ y) →
      News h₀ env.locals h ((I, it) :: (qa, listOf qvs.toArray cnt) :: (la, listOf vs.toArray lc) :: tail) →
      wpAny (model prog wd) A (execs body env) (TurnP h₀ env.locals I it s qa la vs lc tail m₁ n b (P ++ [d]) Q) E { s with heap := h, toks := tk })
    (done : ∀ (rr : Int) (tr : Tok) (u w : Option Value) (qvs : List Value) (qns : List Int) (cnt : Nat) (h : Heap) (tk : Nat), InvP n b rr ns.reverse qns → IntsAre qvs qns →
      Fr h₀ env.locals h (fun y => if y = xR then some (.int rr tr) else if y = xQ then u else if y = xA then w else m₁ y) → News h₀ env.locals h ((qa, listOf qvs.toArray cnt) :: (la, listOf vs.toArray lc) :: tail) → Q .next { s with heap := h, toks := tk }) :
    wpAny (model prog wd) A (pyIter (.ref I)) (fun it s₂ => LoopAtV prog wd A h₀ env xA body Q E it s₂) E s := by
  have hoff : ∀ c : StP, ∀ p ∈ ledP qa la vs lc tail c, p.1 ≠ I := by
    intro c p hp
    rcases List.mem_cons.mp hp with rfl | hp
    · exact Nat.ne_of_lt hI.1
    · rcases List.mem_cons.mp hp with rfl | hp
      · exact Nat.ne_of_lt hI.2.1
      · exact Nat.ne_of_lt (ktn_ltOf hI.2.2 p hp)
  refine rev_loop (ledP qa la vs lc tail) (mapP m₁) (invP n b) ⟨0, tr, m₁ xQ, m₁ xA, [], [], c0⟩ hh F N (hoff _) (fun c => .tail _ (.head _)) hi (mapP_start hr) ⟨inv_start hb, .nil⟩ ?_ ?_
  · intro c P d t it h tk hinv hd hl _ F' N'
    exact turn c.rr c.tr c.u c.w c.qvs c.qns c.cnt P d t it h tk hinv.1 hinv.2 (hrg d hd).1 (hrg d hd).2 hl F' N'
  · intro c h tk hinv F' N'
    exact done c.rr c.tr c.u c.w c.qvs c.qns c.cnt h tk hinv.1 hinv.2 F' N'
theorem turnP_end {h₀ h' : Heap} {L I : Addr} {it : Obj} {qa la : Addr} {vs : List Value} {lc : Nat} {tail led : List (Addr × Obj)} {m₁ : Str → Option Value} {n b : Int} {P : List Int} {rr rr' qd : Int} {tr tr' tq t : Tok} {u wv : Option Value} {d : Int} {qvs' : List Value} {qns' : List Int} {cnt' tk' : Nat} {s : Shared}
    (hI : qa < I ∧ la < I ∧ AllLt I tail)
    (F : Fr h₀ L h' (fun y => if y = xR then some (.int rr' tr') else if y = xQ then some (.int qd tq) else if y = xA then some (.int d t) else if y = xR then some (.int rr tr) else if y = xQ then u else if y = xA then wv else m₁ y))
    (N : News h₀ L h' led) (hm1 : (I, it) ∈ led) (hm2 : (qa, listOf qvs'.toArray cnt') ∈ led) (hm3 : (la, listOf vs.toArray lc) ∈ led) (ht : ∀ q ∈ tail, q ∈ led) (inv : InvP n b rr' P qns') (hi : IntsAre qvs' qns') :
    RevEnd h₀ L I it s (ledP qa la vs lc tail) (mapP m₁) (invP n b) P { s with heap := h', toks := tk' } := by
  rw [mapP_eq] at F
  refine ⟨⟨rr', tr', some (.int qd tq), some (.int d t), qvs', qns', cnt'⟩, h', tk', rfl, F, ?_, ?_, inv, hi⟩
  · intro p hp
    rcases List.mem_cons.mp hp with rfl | hp
    · exact N _ hm1
    · rcases List.mem_cons.mp hp with rfl | hp
      · exact N _ hm2
      · rcases List.mem_cons.mp hp with rfl | hp
        · exact N _ hm3
        · exact N p (ht p hp)
  · intro p hp
    rcases List.mem_cons.mp hp with rfl | hp
    · exact Nat.ne_of_lt hI.1
    · rcases List.mem_cons.mp hp with rfl | hp
      · exact Nat.ne_of_lt hI.2.1
      · exact Nat.ne_of_lt (ktn_ltOf hI.2.2 p hp)
end
end Mine
end
section
open PySem PySem.W PyProof.Rows PySem.Calls
set_option maxRecDepth 100000
namespace Mine
def Spec2 (w : World) (p : Program) (loose : List Str) (mean : ExcName → Option Value) (mg mb : Str → Option Value) (f : Addr) (vs : List Value) (sz : Nat) (P : Int → Int → Prop) : Prop :=
  ∀ (dp un : Nat) (gd : Option (List Code)) (cn : Str) (cs : Scope) (a : Addr) (ccd : Value) (cl : List (Str × Addr)) (outer : List Env) (A₀ : Around) (base h₀ : Heap) (L : Addr) (m : Str → Option Value) (news : List (Addr × Obj)) (s : Shared)
    (Q E : Value → Shared → Prop),
    Below A₀ base outer h₀ → Fr h₀ L s.heap m → (Mine.hd.heap_39 w.params).In h₀ → News h₀ L s.heap news → Top p loose mean mg mb h₀ → cs.kind = .function → dp + sz < recursionLimit → un + 8 * sz < cLine →
    Ret2 h₀ L m news s Q P →
    wpAny (model PySem.Challenge.rw_wv0072_01.row.prog w) (ktrTop dp un gd cn cs L a ccd cl outer) (call (.ref f) vs) Q E s
section
variable {w : World} {p : Program} {loose : List Str} {mean : ExcName → Option Value} {mg mb : Str → Option Value} {f : Addr} {vs : List Value} {sz : Nat} {P : Int → Int → Prop}
theorem spec2_use {dp un : Nat} {gd : Option (List Code)} {cn : Str} {cs : Scope} {a : Addr} {ccd : Value} {cl : List (Str × Addr)} {outer : List Env} {A₀ : Around} {base h₀ : Heap} {L : Addr} {m : Str → Option Value} {news : List (Addr × Obj)} {s : Shared}
    {Q E : Value → Shared → Prop}
    (B : Below A₀ base outer h₀) (F : Fr h₀ L s.heap m) (X : (Mine.hd.heap_39 w.params).In h₀) (N : News h₀ L s.heap news) (T : Top p loose mean mg mb h₀) (hk : cs.kind = .function)
    (S : Spec2 w p loose mean mg mb f vs sz P) (hd : dp + sz < recursionLimit) (hu : un + 8 * sz < cLine)
    (h : ∀ (x y : Int) (D : Addr) (t u : Tok) (c : Nat) (h' : Heap) (tk' : Nat), P x y → Fr h₀ L h' m → News h₀ L h' ((D, ({ cls := .type "tuple", data := .seq #[.int x t, .int y u] c } : Obj)) :: news) → (∀ p ∈ news, p.1 < D) → Q (.ref D) { s with heap := h', toks := tk' }) :
    wpAny (model PySem.Challenge.rw_wv0072_01.row.prog w) (ktrTop dp un gd cn cs L a ccd cl outer) (call (.ref f) vs) Q E s :=
  S _ _ _ _ _ _ _ _ _ _ _ _ _ _ _ _ _ _ B F X N T hk hd hu h
theorem spec2_useR {R : Prop} {dp un : Nat} {gd : Option (List Code)} {cn : Str} {cs : Scope} {a : Addr} {ccd : Value} {cl : List (Str × Addr)} {outer : List Env} {A₀ : Around} {base h₀ : Heap} {L : Addr} {m : Str → Option Value} {news : List (Addr × Obj)} {s : Shared}
    {Q E : Value → Shared → Prop}
    (B : Below A₀ base outer h₀) (F : Fr h₀ L s.heap m) (X : (Mine.hd.heap_39 w.params).In h₀) (N : News h₀ L s.heap news) (T : Top p loose mean mg mb h₀) (hk : cs.kind = .function)
    (S : R → Spec2 w p loose mean mg mb f vs sz P) (hR : R) (hd : dp + sz < recursionLimit) (hu : un + 8 * sz < cLine)
    (h : ∀ (x y : Int) (D : Addr) (t u : Tok) (c : Nat) (h' : Heap) (tk' : Nat), R → P x y → Fr h₀ L h' m → News h₀ L h' ((D, ({ cls := .type "tuple", data := .seq #[.int x t, .int y u] c } : Obj)) :: news) → (∀ p ∈ news, p.1 < D) → Q (.ref D) { s with heap := h', toks := tk' }) :
    wpAny (model PySem.Challenge.rw_wv0072_01.row.prog w) (ktrTop dp un gd cn cs L a ccd cl outer) (call (.ref f) vs) Q E s :=
  S hR _ _ _ _ _ _ _ _ _ _ _ _ _ _ _ _ _ _ B F X N T hk hd hu (fun x y D t u c h' tk' => h x y D t u c h' tk' hR)
/-- the end of a way that hands back a tuple of two ints -/
theorem ret2_end {h₀ : Heap} {L : Addr} {m : Str → Option Value} {news news' : List (Addr × Obj)} {s : Shared} {Q : Value → Shared → Prop} {x y : Int} {D : Addr} {t u : Tok} {c : Nat} {h' : Heap} {tk' : Nat}
    (hret : Ret2 h₀ L m news s Q P) (F : Fr h₀ L h' m) (N : News h₀ L h' news') (hm : (D, ({ cls := .type "tuple", data := .seq #[.int x t, .int y u] c } : Obj)) ∈ news') (hn : ∀ p ∈ news, p ∈ news') (hl : ∀ p ∈ news, p.1 < D) (hp : P x y) :
    Q (.ref D) { s with heap := h', toks := tk' } := by
  refine hret x y D t u c h' tk' hp F (fun p hp => ?_) hl
  rcases List.mem_cons.mp hp with rfl | hp
  · exact N _ hm
  · exact N p (hn p hp)
theorem lt_of1 {D a : Addr} {news : List (Addr × Obj)} (h : a < D ∧ AllLt D news) : ∀ p ∈ news, p.1 < D := ktn_ltOf h.2
theorem lt_of2 {D a b : Addr} {news : List (Addr × Obj)} (h : a < D ∧ b < D ∧ AllLt D news) : ∀ p ∈ news, p.1 < D := ktn_ltOf h.2.2
theorem lt_of3 {D a b c : Addr} {news : List (Addr × Obj)} (h : a < D ∧ b < D ∧ c < D ∧ AllLt D news) : ∀ p ∈ news, p.1 < D := ktn_ltOf h.2.2.2
theorem lt_of4 {D a b c d : Addr} {news : List (Addr × Obj)} (h : a < D ∧ b < D ∧ c < D ∧ d < D ∧ AllLt D news) : ∀ p ∈ news, p.1 < D := ktn_ltOf h.2.2.2.2
theorem lt_of5 {D a b c d e : Addr} {news : List (Addr × Obj)} (h : a < D ∧ b < D ∧ c < D ∧ d < D ∧ e < D ∧ AllLt D news) : ∀ p ∈ news, p.1 < D := ktn_ltOf h.2.2.2.2.2
end
end Mine
end
section
open PySem PySem.W PyProof.Rows PySem.Calls
set_option hygiene false in
local macro_rules | `(tactic| walk_at "binaryOp Add int int") => `(tactic| (with_reducible refine r_add ?_; intro qv hqv))
set_option hygiene false in
local macro_rules | `(tactic| walk_at "binaryOp Sub int int") => `(tactic| (with_reducible refine r_sub ?_; intro qv hqv))
set_option hygiene false in
local macro_rules | `(tactic| walk_at "binaryOp BitAnd int int") => `(tactic| (with_reducible refine r_and ?_; intro qv hqv))
set_option hygiene false in
local macro_rules | `(tactic| walk_at "binaryOp BitOr int int") => `(tactic| (with_reducible refine r_or ?_; intro qv hqv))
set_option hygiene false in
local macro_rules | `(tactic| walk_at "inplaceOp Add int int") => `(tactic| (with_reducible refine r_iadd ?_; intro qv hqv))
set_option hygiene false in
local macro_rules | `(tactic| walk_at "inplaceOp Sub int int") => `(tactic| (with_reducible refine r_isub ?_; intro qv hqv))
set_option hygiene false in
local macro_rules | `(tactic| walk_at "binaryOp RShift int int") => `(tactic| (with_reducible refine r_shr ?m_nn ?_; (case m_nn => walk_at "m_nn"); intro qv hqv))
set_option hygiene false in
local macro_rules | `(tactic| walk_at "binaryOp LShift int int") => `(tactic| (with_reducible refine r_shl ?m_nn ?m_sz ?_; (case m_nn => walk_at "m_nn"); (case m_sz => walk_at "m_sz"); intro qv hqv))
set_option hygiene false in
local macro_rules | `(tactic| walk_at "inplaceOp LShift int int") => `(tactic| (with_reducible refine r_ishl ?m_nn ?m_sz ?_; (case m_nn => walk_at "m_nn"); (case m_sz => walk_at "m_sz"); intro qv hqv))
set_option hygiene false in
local macro_rules | `(tactic| walk_at "inplaceOp RShift int int") => `(tactic| (with_reducible refine r_ishr ?m_nn ?_; (case m_nn => walk_at "m_nn"); intro qv hqv))
set_option hygiene false in
local macro_rules | `(tactic| walk_at "binaryOp Mult int int") => `(tactic| (with_reducible refine r_mul ?m_ml ?_; (case m_ml => walk_at "m_ml"); intro qv hqv))
section
open PySem PySem.W PyProof.Rows PySem.Calls
set_option maxRecDepth 100000
set_option maxHeartbeats 8000000
namespace Mine
theorem offIn72 : True ∧ True := by
  w_top off
  first | (walk1; done) | exact ⟨trivial, trivial⟩
section
variable {w : World} {p : Program} {loose : List Str} {mean : ExcName → Option Value} {mg mb : Str → Option Value}


set_option hygiene false in
local macro_rules | `(tactic| walk_at "binaryOp BitXor int int") => `(tactic| (with_reducible refine r_xor ?_; intro qv hqv))
/-- the inner def of _int2digits, k halvings deep at the most -/
def InnerA (w : World) (p : Program) (loose : List Str) (mean : ExcName → Option Value) (mg mb : Str → Option Value) (f la : Addr) (n : Int) (fix : List (Addr × Obj)) (c : Nat) (k : Nat) : Prop :=
  ∀ (x L R : Int) (tx tL tR : Tok) (vs : List Value) (ns : List Int) (dp un : Nat) (gd : Option (List Code)) (cn : Str) (cs : Scope) (a : Addr) (ccd : Value) (cl : List (Str × Addr)) (outer : List Env) (A₀ : Around) (base h₀ : Heap) (Lf : Addr) (m : Str → Option Value) (s : Shared)
    (Q E : Value → Shared → Prop),
    PreA n x L R (ns.length : Int) k → IntsAre vs ns → CodeHd base 34 30 →
    Below A₀ base outer h₀ → Fr h₀ Lf s.heap m → (Mine.hd.heap_39 w.params).In h₀ → News h₀ Lf s.heap ((la, listOf vs.toArray c) :: fix) → Top p loose mean mg mb h₀ → cs.kind = .function → dp + (k + 1) < recursionLimit → un + 8 * (k + 1) < cLine →
    (∀ vs' h' tk', IntsAre vs' (putAt ns L.toNat (digs n.toNat x (R - L).toNat)) → Fr h₀ Lf h' m → News h₀ Lf h' ((la, listOf vs'.toArray c) :: fix) → Q .none { s with heap := h', toks := tk' }) →
    wpAny (model PySem.Challenge.rw_wv0072_01.row.prog w) (ktrTop dp un gd cn cs Lf a ccd cl outer) (call (.ref f) [.int x tx, .int L tL, .int R tR]) Q E s
theorem innerA_use {f la : Addr} {n : Int} {fix : List (Addr × Obj)} {c k : Nat} {x L R : Int} {tx tL tR : Tok} {vs : List Value} {ns : List Int} {dp un : Nat} {gd : Option (List Code)} {cn : Str} {cs : Scope} {a : Addr} {ccd : Value} {cl : List (Str × Addr)} {outer : List Env} {A₀ : Around} {base h₀ : Heap} {Lf : Addr} {m : Str → Option Value} {s : Shared}
    {Q E : Value → Shared → Prop}
    (B : Below A₀ base outer h₀) (F : Fr h₀ Lf s.heap m) (X : (Mine.hd.heap_39 w.params).In h₀) (N : News h₀ Lf s.heap ((la, listOf vs.toArray c) :: fix)) (T : Top p loose mean mg mb h₀) (hk : cs.kind = .function) (hC : CodeHd base 34 30)
    (I : InnerA w p loose mean mg mb f la n fix c k) (hi : IntsAre vs ns) (pa : PreA n x L R (ns.length : Int) k) (hd : dp + (k + 1) < recursionLimit) (hu : un + 8 * (k + 1) < cLine)
    (h : ∀ vs' h' tk', PreA n x L R (ns.length : Int) k → IntsAre vs' (putAt ns L.toNat (digs n.toNat x (R - L).toNat)) → Fr h₀ Lf h' m → News h₀ Lf h' ((la, listOf vs'.toArray c) :: fix) → Q .none { s with heap := h', toks := tk' }) :
    wpAny (model PySem.Challenge.rw_wv0072_01.row.prog w) (ktrTop dp un gd cn cs Lf a ccd cl outer) (call (.ref f) [.int x tx, .int L tL, .int R tR]) Q E s :=
  I _ _ _ _ _ _ _ _ _ _ _ _ _ _ _ _ _ _ _ _ _ _ _ _ _ pa hi hC B F X N T hk hd hu (fun vs' h' tk' => h vs' h' tk' pa)
theorem news_pull2 {h₀ h : Heap} {L : Addr} {e1 e2 e3 : Addr × Obj} {t : List (Addr × Obj)} (N : News h₀ L h (e1 :: e2 :: e3 :: t)) : News h₀ L h (e3 :: e1 :: e2 :: t) := by
  intro q hq
  refine N q ?_
  simp only [List.mem_cons] at hq ⊢
  rcases hq with h | h | h | h
  · exact .inr (.inr (.inl h))
  · exact .inl h
  · exact .inr (.inl h)
  · exact .inr (.inr (.inr h))
/-- what the ledger bears beside the list -/
structure FixA (f la c' cA cI cN : Addr) (fo : Obj) (qual : Str) (n : Int) (fix : List (Addr × Obj)) : Prop where
  hf : (f, fo) ∈ fix
  hc : ∃ oc vs t, (c', oc) ∈ fix ∧ oc.data = .fields vs ∧ vs[1]? = some (.str qual t)
  hA : ∃ oA, (cA, oA) ∈ fix ∧ oA.data = .cell (some (.ref la))
  hI : ∃ oI, (cI, oI) ∈ fix ∧ oI.data = .cell (some (.ref f))
  hN : ∃ oN t, (cN, oN) ∈ fix ∧ oN.data = .cell (some (.int n t))
  ap : ∀ q ∈ fix, q.1 ≠ la
/-- a maker's table of codes: nothing yet, or the one inner def's code -/
inductive TabS (P : Addr) (line col : Nat) (qual : Str) : List (Addr × Obj) → Prop
  | empty : TabS P line col qual [(P, tabObj #[])]
  | full (c' : Addr) (oc : Obj) (vs : Array Value) (t : Tok) : oc.data = .fields vs → vs[1]? = some (.str qual t) → P < c' → TabS P line col qual [(P, tabObj #[rawInt line, rawInt col, .ref c']), (c', oc)]
abbrev qualA : Str := Str.ofString "_int2digits" ++ ".<locals>." ++ Str.ofString "inner"
abbrev qualD : Str := Str.ofString "_digits2int" ++ ".<locals>." ++ Str.ofString "inner"
theorem useA {name qual : Str} {params : Arguments} {body : List Stmt} {scope : Scope} {doc pm ctv : Value} {f la c' cA cI cN : Addr} {n : Int} {fix : List (Addr × Obj)} {P : Prop} (xA xI xN : Str)
    (fx : FixA f la c' cA cI cN (fnMade name qual params body scope [(xN, cN), (xI, cI), (xA, cA)] doc pm c' ctv) qual n fix) (hn : 0 < n)
    (key : ∀ (doc pm ctv : Value) (f la c' cA cI cN : Addr) (n : Int) (fix : List (Addr × Obj)), FixA f la c' cA cI cN (fnMade name qual params body scope [(xN, cN), (xI, cI), (xA, cA)] doc pm c' ctv) qual n fix → 0 < n → ∀ c k, InnerA w p loose mean mg mb f la n fix c k)
    (h : (∀ c k, InnerA w p loose mean mg mb f la n fix c k) → P) : P := h (key doc pm ctv f la c' cA cI cN n fix fx hn)
theorem news_pull1 {h₀ h : Heap} {L : Addr} {e1 e3 : Addr × Obj} {t : List (Addr × Obj)} (N : News h₀ L h (e1 :: e3 :: t)) : News h₀ L h (e3 :: e1 :: t) := by
  intro q hq
  refine N q ?_
  simp only [List.mem_cons] at hq ⊢
  rcases hq with h | h | h
  · exact .inr (.inl h)
  · exact .inl h
  · exact .inr (.inr h)
theorem newsA {h₀ h : Heap} {L la : Addr} {o : Obj} {e1 e2 : Addr × Obj} {t : List (Addr × Obj)} {P : Prop} (N : News h₀ L h (e1 :: e2 :: (la, o) :: t)) (k : ∀ fix, fix = e1 :: e2 :: t → News h₀ L h ((la, o) :: fix) → P) : P := k _ rfl (news_pull2 N)
theorem newsA1 {h₀ h : Heap} {L la : Addr} {o : Obj} {e1 : Addr × Obj} {t : List (Addr × Obj)} {P : Prop} (N : News h₀ L h (e1 :: (la, o) :: t)) (k : ∀ fix, fix = e1 :: t → News h₀ L h ((la, o) :: fix) → P) : P := k _ rfl (news_pull1 N)
theorem news_take {h₀ h : Heap} {L : Addr} {e : Addr × Obj} {l t : List (Addr × Obj)} (N : News h₀ L h l) (hm : e ∈ l) (N2 : News h₀ L h t) : News h₀ L h (e :: t) := by
  intro q hq
  rcases List.mem_cons.mp hq with rfl | hq
  · exact N _ hm
  · exact N2 q hq
theorem news_sub {h₀ h : Heap} {L : Addr} {l t : List (Addr × Obj)} (N : News h₀ L h l) (hs : ∀ q ∈ t, q ∈ l) : News h₀ L h t := fun q hq => N q (hs q hq)
theorem ceil_pos {q a b n : Int} (hb : 0 ≤ b) (ha : a = b + n) (hq : q = a - 1) (hn : 0 < n) : 0 ≤ q / n := Int.ediv_nonneg (by omega) (by omega)
set_option hygiene false in
local macro_rules | `(tactic| walk_at "binaryOp FloorDiv int int") => `(tactic| (with_reducible refine r_fdivp ?m_ps ?m_ps2 ?_; (case m_ps => walk_at "m_ps"); (case m_ps2 => walk_at "m_ps2"); intro qv hqv; (have hq8 : 0 ≤ qv := by rw [hqv]; exact ceil_pos hb0 (by assumption) (by assumption) hn); (have hq9 : qv ≤ 2 ^ 24 := by rw [hqv]; exact Int.le_trans (Int.ediv_le_self _ (by omega)) (by omega))))
set_option hygiene false in
local macro_rules | `(tactic| k_all) => `(tactic| (refine fun q9 hq9 => ?_; have h98 := ltN (hrl q9 hq9); have h99 := neN (hr q9 hq9); refine neN ?_; (try dsimp only); omega))
set_option hygiene false in
local macro_rules | `(tactic| walk_at "binaryOp Mult ref int") => `(tactic| ((refine r_rep (by assumption) (by assumption) (by k_mem) (by assumption) (by assumption) ?_); intro D9 vs9 h9 hI9 F9 N9 l9; (try k_lt l9); (try dsimp only)))
set_option hygiene false in
local macro_rules | `(tactic| walk_at "call builtin:len") => `(tactic| ((with_reducible show wpAny _ _ (call (Value.builtin "len") [Value.ref _]) _ _ _); (refine r_len (by assumption) (by k_mem) (by assumption) (by walk_at "m_ln") ?_); intro qv hqv))
local macro_rules | `(tactic| k_all) => `(tactic| with_reducible assumption)
local macro_rules | `(tactic| k_mem) => `(tactic| (refine List.Mem.tail _ ?_; assumption))
theorem zero_ints {n q1 q2 m x : Int} {vs : List Value} (hi : IntsAre vs (List.replicate m.toNat 0)) (hn : 0 < n) (h1 : q1 = (Builtin.Int.intBits x : Int) + n) (h2 : q2 = q1 - 1) (h3 : m = q2 / n) (hn2 : n ≤ 64000) (hx : x = 0) : IntsAre vs (digs n.toNat x m.toNat) := by
  have := top_zero hn h1 h2 h3 hn2 hx
  rw [this] at hi ⊢
  exact hi
abbrev RetA (x n : Int) (tab rest : List (Addr × Obj)) (h₀ : Heap) (L : Addr) (m : Str → Option Value) (s : Shared) (Q : Value → Shared → Prop) : Prop :=
  ∀ (D : Addr) (vs : List Value) (c k : Nat) (tab' : List (Addr × Obj)) h' tk', IntsAre vs (digs n.toNat x k) → x < 2 ^ (n.toNat * k) → k ≤ 200000 → n * (k : Int) ≤ 2 ^ 26 → TabS 30 32 4 qualA tab' → (∀ q ∈ tab', q ∈ tab ∨ q.1 = 30 ∨ ∀ r ∈ rest, r.1 < q.1) → (∀ r ∈ rest, r.1 < D) → 30 < D →
      Fr h₀ L h' m → News h₀ L h' ((D, listOf vs.toArray c) :: (tab' ++ rest)) → Q (.ref D) { s with heap := h', toks := tk' }
section
variable {x n q1 q2 mm : Int} {tab tab' rest led : List (Addr × Obj)} {h₀ h' : Heap} {L D : Addr} {m : Str → Option Value} {s : Shared} {Q : Value → Shared → Prop} {vs : List Value} {tk' : Nat}
theorem endA_hit
    (hret : RetA x n tab rest h₀ L m s Q) (N : News h₀ L h' led) (hD : (D, listOf vs.toArray 0) ∈ led)
    (hi : IntsAre vs (digs n.toNat x mm.toNat)) (h1 : q1 = (Builtin.Int.intBits x : Int) + n) (h2 : q2 = q1 - 1) (h3 : mm = q2 / n) (hx : 0 ≤ x) (hn : 0 < n) (hn2 : n ≤ 64000) (hb : Builtin.Int.intBits x ≤ 200000)
    (F : Fr h₀ L h' m) (hT : TabS 30 32 4 qualA tab) (ht : ∀ q ∈ tab, q ∈ led) (hrs : ∀ q ∈ rest, q ∈ led)
    (lt : ∀ r ∈ rest, r.1 < D) (h30 : 30 < D) : Q (.ref D) { s with heap := h', toks := tk' } := by
  obtain ⟨f1, f2, f3, f4, -, -⟩ := ceil_facts hn h1 h2 h3 hb hn2
  refine hret D vs 0 mm.toNat tab h' tk' hi (x_lt_pow hx hn f1 f3) (by omega) (by rw [Int.toNat_of_nonneg f1]; omega) hT (fun q hq => .inl hq) lt h30 F (news_take N hD fun q hq => N q ?_)
  exact (List.mem_append.mp hq).elim (ht q) (hrs q)
theorem endA_miss {c' : Addr} {oc : Obj} {cv : Array Value} {ct : Tok}
    (hret : RetA x n tab rest h₀ L m s Q) (N : News h₀ L h' led) (hD : (D, listOf vs.toArray 0) ∈ led)
    (hi : IntsAre vs (digs n.toNat x mm.toNat)) (h1 : q1 = (Builtin.Int.intBits x : Int) + n) (h2 : q2 = q1 - 1) (h3 : mm = q2 / n) (hx : 0 ≤ x) (hn : 0 < n) (hn2 : n ≤ 64000) (hb : Builtin.Int.intBits x ≤ 200000)
    (F : Fr h₀ L h' m) (hm1 : ((30, tabObj #[rawInt ((32 : Nat) : Int), rawInt ((4 : Nat) : Int), .ref c']) : Addr × Obj) ∈ led) (hm2 : (c', oc) ∈ led) (hcd : oc.data = .fields cv) (hcv : cv[1]? = some (.str qualA ct)) (hc : 30 < c') (hcr : ∀ r ∈ rest, r.1 < c') (hrs : ∀ q ∈ rest, q ∈ led)
    (lt : ∀ r ∈ rest, r.1 < D) (h30 : 30 < D) : Q (.ref D) { s with heap := h', toks := tk' } := by
  obtain ⟨f1, f2, f3, f4, -, -⟩ := ceil_facts hn h1 h2 h3 hb hn2
  refine hret D vs 0 mm.toNat _ h' tk' hi (x_lt_pow hx hn f1 f3) (by omega) (by rw [Int.toNat_of_nonneg f1]; omega) (TabS.full c' oc cv ct hcd hcv hc) ?_ lt h30 F (news_take N hD fun q hq => N q ?_)
  · exact List.forall_mem_cons.mpr ⟨.inr (.inl rfl), List.forall_mem_cons.mpr ⟨.inr (.inr hcr), fun _ h => nomatch h⟩⟩
  · refine (List.mem_append.mp hq).elim (fun h => ?_) (hrs q)
    rcases List.mem_cons.mp h with rfl | h
    · exact hm1
    · rcases List.mem_cons.mp h with rfl | h
      · exact hm2
      · exact nomatch h
end
def SpecA (w : World) (p : Program) (loose : List Str) (mean : ExcName → Option Value) (mg mb : Str → Option Value) : Prop :=
  ∀ (x n : Int) (tx tn : Tok) (tab : List (Addr × Obj)) (dp un : Nat) (gd : Option (List Code)) (cn : Str) (cs : Scope) (a : Addr) (ccd : Value) (cl : List (Str × Addr)) (outer : List Env) (A₀ : Around) (base h₀ : Heap) (L : Addr) (m : Str → Option Value) (rest : List (Addr × Obj)) (s : Shared)
    (Q E : Value → Shared → Prop),
    0 ≤ x → 0 < n → n ≤ 64000 → Builtin.Int.intBits x ≤ 200000 → CodeHd base 34 30 → TabS 30 32 4 qualA tab → (∀ q ∈ rest, q.1 ≠ 30) →
    Below A₀ base outer h₀ → Fr h₀ L s.heap m → (Mine.hd.heap_39 w.params).In h₀ → News h₀ L s.heap (tab ++ rest) → Top p loose mean mg mb h₀ → cs.kind = .function → dp + 20 < recursionLimit → un + 8*20 < cLine →
    RetA x n tab rest h₀ L m s Q →
    wpAny (model PySem.Challenge.rw_wv0072_01.row.prog w) (ktrTop dp un gd cn cs L a ccd cl outer) (call (.ref 35) [.int x tx, .int n tn]) Q E s
theorem specA : SpecA w p loose mean mg mb := by
  unfold SpecA
  k_fill
  intro x n tx tn tab dp un gd cn cs aF ccd cl outer A₀ base h₀ L m rest s Q E hx hn hn2 hxb hCd hT hr B F X NW T hk hd hu hret
  k_with_none
  k_with "m_nn" => first | decide | omega
  k_with "m_ps" => first | decide | omega
  k_with "m_ps2" => first | decide | omega
  k_with "m_ln" => (rw [List.length_replicate]; omega)
  have hb0 : (0:Int) ≤ ((Builtin.Int.intBits x : Nat) : Int) := by omega
  rcases hT with _ | ⟨c8, oc8, cv8, ct8, hcd8, hcv8, hlt8⟩
  all_goals (
    simp only [List.cons_append, List.nil_append] at NW
    refine wpAny_call ?_
    k_dflt ((refine' code_defC ?k1 ?k2 ?k3 ?k4 ?k5 ?kA ?kF ?kK ?k6 ?k7 ?k8 ?k9 ?kB ?kD ?_ ?c2 ?c3 ?c4; (case kA => exact rfl); (case kF => exact rfl); (case kK => first | assumption | exact rfl); (case k1 => k_asm); (case k2 => k_asm); (case k3 => k_asm); (case k4 => k_asm); (case k5 => k_asm); (case k6 => k_is); (case k7 => k_is); (case k8 => ktr_room); (case k9 => exact BindsTo.of_eq rfl); (case kB => exact rfl); (case kD => decide +kernel); (case c2 => exact rfl); (case c3 => exact rfl); (case c4 => exact rfl); k_whole; intro g' L' h' tk' cells' FG' F' N' Y' B' X' T' l1; (try k_lt l1); k_cells Y'; (try simp only [List.cons_append, List.nil_append] at N'); (try dsimp only); (try k_lift B'); (try k_fold)))
    have hrl : ∀ q ∈ rest, q.1 < L' := by first | exact ktn_ltOf l1.2 | exact ktn_ltOf l1.2.2
    k_steps)
  rotate_left
  rotate_left
  all_goals try (
    (rename News _ _ _ _ => NN)
    (try simp only [Array.empty_append] at NN)
    (first | refine newsA (la := D9) NN ?_ | refine newsA1 (la := D9) NN ?_)
    intro fix hfix NN2
    (refine useA (Str.ofString "a_digits") (Str.ofString "inner") (Str.ofString "n") (w := w) (p := p) (loose := loose) (mean := mean) (mg := mg) (mb := mb) (fix := fix) (n := n) (FixA.mk (by rw [hfix]; exact List.Mem.head _) ⟨_, _, _, by rw [hfix]; k_mem, by assumption, by assumption⟩ ⟨_, by rw [hfix]; k_mem, by assumption⟩ ⟨_, by rw [hfix]; k_mem, by assumption⟩ ⟨_, _, by rw [hfix]; k_mem, by assumption⟩ (by rw [hfix]; first | k_all | fail "f6")) hn ?_ ?_)
    · intro doc pm ctv f la c' cA cI cN n fix fx hn c
      have step : ∀ k, (∀ j, k = j + 1 → InnerA w p loose mean mg mb f la n fix c j) → InnerA w p loose mean mg mb f la n fix c k := by
        intro k IH
        obtain ⟨hf, ⟨oc, cvs, ct, hc, hcd, hcv⟩, ⟨oA, hA, hAd⟩, ⟨oI, hI, hId⟩, ⟨oN, tN, hNm, hNd⟩, hap⟩ := fx
        unfold InnerA
        intro x L R tx tL tR vs ns dp un gd cn cs aF ccd cl outer A₀ base h₀ Lf m s Q E pa hi hC B F X NW T hk hd hu hret
        have L0 := pa.L0
        have LR := pa.LR
        have Rl := pa.Rl
        have l1 := pa.l1
        k_with "m_nn" => first | decide | exact nn_sh pa (by assumption) (by assumption) (by assumption) (by assumption) (by assumption) (by assumption)
        k_with "m_sz" => exact sz_up pa (by assumption) (by assumption) (by assumption) (by assumption) (by assumption) (by assumption) (by assumption)
        k_with "m_ml" => exact ml_sh pa (by assumption) (by assumption) (by assumption) (by assumption) (by assumption)
        k_with "call ref" => (
          (obtain ⟨j, hj⟩ := pa.some (by assumption) (by assumption))
          (first
            | (refine innerA_use (by k_asm) (by k_asm) (by k_asm) (by k_asm) (by k_asm) (by first | exact rfl | assumption) (by kn_code) (IH j hj) (by assumption) (preA_low pa hj (by assumption) (by assumption) (by assumption) (by assumption) (by assumption) (by assumption) (by assumption) (by assumption) (by assumption)) (by ktr_room) (by ktr_units) ?_)
            | (refine innerA_use (by k_asm) (by k_asm) (by k_asm) (by k_asm) (by k_asm) (by first | exact rfl | assumption) (by kn_code) (IH j hj) (by assumption) (preA_up pa hj (by assumption) (by assumption) (by assumption) (by assumption) (by assumption) (by assumption) (by assumption) (by assumption)) (by ktr_room) (by ktr_units) ?_))
          intro vs9 h9 tk9 pa9 hi9 F9 N9
          (have hl9 := put_len pa9 rfl)
          (try dsimp only)
          (try k_fold))
        refine wpAny_call ?_
        k_dflt ((refine' code_nest ?k1 ?k2 ?k3 ?k4 ?k5 ?kA ?kF ?kK ?k6 ?k7 ?k8 ?k9 ?kB ?_ ?c2 ?c3 ?c4 ?c5; (case kA => exact rfl); (case kF => exact rfl); (case kK => first | assumption | exact rfl); (case k1 => k_asm); (case k2 => k_asm); (case k3 => k_asm); (case k4 => k_asm); (case k5 => k_asm); (case k6 => k_mem); (case k7 => exact codeRec_news (by k_asm) (by k_mem) (by assumption) (by assumption)); (case k8 => ktr_room); (case k9 => exact BindsTo.of_eq rfl); (case c5 => decide); (case kB => exact locs rfl); (case c2 => exact rfl); (case c3 => exact rfl); (case c4 => exact rfl); k_whole; intro g' L' h' FG' F' N' B' X' T'; (try dsimp only); (try k_lift B'); (try k_fold)))
        k_steps
        all_goals first
          | exact hret _ _ _ (ints_one pa (by assumption) (by assumption) (by assumption)) (by assumption) (by assumption)
          | exact hret _ _ _ (ints_two pa (by assumption) (by assumption) (by assumption) (by assumption) (by assumption) (by assumption) (by assumption) (by assumption) (by assumption) (by assumption)) (by assumption) (by assumption)
      intro k
      induction k with
      | zero => exact step 0 (fun j hj => by omega)
      | succ j ih => exact step (j+1) (fun i hi => by cases hi; exact ih)
    intro I
    (refine innerA_use (by k_asm) (by k_asm) (by k_asm) (by k_asm) (by k_asm) (by first | exact rfl | assumption) (by kn_code) (I 0 18) hI9 (preA_top hn (by assumption) (by assumption) (by assumption) (by assumption) hxb hn2 hx (by assumption)) (by ktr_room) (by ktr_units) ?_)
    intro vs8 h8 tk8 pa8 hi8 F8 N8
    subst hfix
    (try dsimp only)
    (try k_fold)
    k_steps)
  all_goals (
    (rename News _ _ _ _ => KN)
    (try simp only [Array.empty_append] at KN)
    first
      | exact endA_hit hret KN (by k_mem) (by first | exact top_ints (by assumption) (by assumption) (by assumption) | exact zero_ints (by assumption) hn (by assumption) (by assumption) (by assumption) hn2 (by assumption)) (by assumption) (by assumption) (by assumption) hx hn hn2 hxb (by assumption) (TabS.full c8 oc8 cv8 ct8 hcd8 hcv8 hlt8) (List.forall_mem_cons.mpr ⟨by k_mem, List.forall_mem_cons.mpr ⟨by k_mem, fun _ h => nomatch h⟩⟩) (by intro _ h; repeat (first | exact h | refine List.Mem.tail _ ?_)) (fun r hr9 => by have h1 := ltN (hrl r hr9); refine ltN ?_; (try dsimp only); omega) (by refine ltN ?_; omega)
      | exact endA_miss hret KN (by k_mem) (by first | exact top_ints (by assumption) (by assumption) (by assumption) | exact zero_ints (by assumption) hn (by assumption) (by assumption) (by assumption) hn2 (by assumption)) (by assumption) (by assumption) (by assumption) hx hn hn2 hxb (by assumption) (by k_mem) (by k_mem) (by assumption) (by assumption) (by refine ltN ?_; omega) (fun r hr9 => by have h1 := ltN (hrl r hr9); refine ltN ?_; (try dsimp only); omega) (by intro _ h; repeat (first | exact h | refine List.Mem.tail _ ?_)) (fun r hr9 => by have h1 := ltN (hrl r hr9); refine ltN ?_; (try dsimp only); omega) (by refine ltN ?_; omega))
end
end Mine
end
section
open PySem PySem.W PyProof.Rows PySem.Calls
set_option maxRecDepth 100000
set_option maxHeartbeats 8000000
namespace Mine
theorem offDd72 : True ∧ True := by
  w_top off
  first | (walk1; done) | exact ⟨trivial, trivial⟩
section
variable {w : World} {p : Program} {loose : List Str} {mean : ExcName → Option Value} {mg mb : Str → Option Value}

local macro_rules | `(tactic| k_mem) => `(tactic| assumption)
set_option hygiene false in
local macro_rules | `(tactic| walk_at "call builtin:len") => `(tactic| ((with_reducible show wpAny _ _ (call (Value.builtin "len") [Value.ref _]) _ _ _); (refine r_len (by assumption) (by k_mem) (by assumption) (by walk_at "m_ln") ?_); intro qv hqv))
set_option hygiene false in
local macro_rules | `(tactic| k_all) => `(tactic| (refine fun q9 hq9 => ?_; have h98 := ltN (hrl q9 hq9); have h99 := neN (hr q9 hq9); refine neN ?_; (try dsimp only); omega))
local macro_rules | `(tactic| k_all) => `(tactic| with_reducible assumption)

set_option hygiene false in
local macro_rules | `(tactic| walk_at "truthy ref") => `(tactic| ((with_reducible show wpAny _ _ (truthy (Value.ref _)) _ _ _); (refine r_truthy (by assumption) (by k_mem) (by assumption) (by walk_at "m_ln") ?_ ?_) <;> intro hne9))
def InnerD (w : World) (p : Program) (loose : List Str) (mean : ExcName → Option Value) (mg mb : Str → Option Value) (f : Addr) (n : Int) (ns : List Int) (fix : List (Addr × Obj)) (k : Nat) : Prop :=
  ∀ (L R : Int) (tL tR : Tok) (dp un : Nat) (gd : Option (List Code)) (cn : Str) (cs : Scope) (a : Addr) (ccd : Value) (cl : List (Str × Addr)) (outer : List Env) (A₀ : Around) (base h₀ : Heap) (Lf : Addr) (m : Str → Option Value) (s : Shared)
    (Q E : Value → Shared → Prop),
    PreD n L R (ns.length : Int) k → CodeHd base 41 37 →
    Below A₀ base outer h₀ → Fr h₀ Lf s.heap m → (Mine.hd.heap_39 w.params).In h₀ → News h₀ Lf s.heap fix → Top p loose mean mg mb h₀ → cs.kind = .function → dp + (k + 1) < recursionLimit → un + 8 * (k + 1) < cLine →
    Ret1 h₀ Lf m fix s Q (fun v => v = undigs n.toNat (seg ns L R)) →
    wpAny (model PySem.Challenge.rw_wv0072_01.row.prog w) (ktrTop dp un gd cn cs Lf a ccd cl outer) (call (.ref f) [.int L tL, .int R tR]) Q E s
theorem innerD_use {f : Addr} {n : Int} {ns : List Int} {fix : List (Addr × Obj)} {k : Nat} {L R : Int} {tL tR : Tok} {dp un : Nat} {gd : Option (List Code)} {cn : Str} {cs : Scope} {a : Addr} {ccd : Value} {cl : List (Str × Addr)} {outer : List Env} {A₀ : Around} {base h₀ : Heap} {Lf : Addr} {m : Str → Option Value} {s : Shared}
    {Q E : Value → Shared → Prop}
    (B : Below A₀ base outer h₀) (F : Fr h₀ Lf s.heap m) (X : (Mine.hd.heap_39 w.params).In h₀) (N : News h₀ Lf s.heap fix) (T : Top p loose mean mg mb h₀) (hk : cs.kind = .function) (hC : CodeHd base 41 37)
    (I : InnerD w p loose mean mg mb f n ns fix k) (pa : PreD n L R (ns.length : Int) k) (hd : dp + (k + 1) < recursionLimit) (hu : un + 8 * (k + 1) < cLine)
    (h : ∀ (v : Int) (t : Tok) h' tk', v = undigs n.toNat (seg ns L R) → Fr h₀ Lf h' m → News h₀ Lf h' fix → Q (.int v t) { s with heap := h', toks := tk' }) :
    wpAny (model PySem.Challenge.rw_wv0072_01.row.prog w) (ktrTop dp un gd cn cs Lf a ccd cl outer) (call (.ref f) [.int L tL, .int R tR]) Q E s :=
  I _ _ _ _ _ _ _ _ _ _ _ _ _ _ _ _ _ _ _ _ _ pa hC B F X N T hk hd hu h
structure FixD (f la c' cA cI cN : Addr) (fo : Obj) (qual : Str) (n : Int) (ns : List Int) (fix : List (Addr × Obj)) : Prop where
  hf : (f, fo) ∈ fix
  hc : ∃ oc vs t, (c', oc) ∈ fix ∧ oc.data = .fields vs ∧ vs[1]? = some (.str qual t)
  hA : ∃ oA, (cA, oA) ∈ fix ∧ oA.data = .cell (some (.ref la))
  hI : ∃ oI, (cI, oI) ∈ fix ∧ oI.data = .cell (some (.ref f))
  hN : ∃ oN t, (cN, oN) ∈ fix ∧ oN.data = .cell (some (.int n t))
  hL : ∃ vs c, (la, listOf (List.toArray vs) c) ∈ fix ∧ IntsAre vs ns
theorem useD {name qual : Str} {params : Arguments} {body : List Stmt} {scope : Scope} {doc pm ctv : Value} {f la c' cA cI cN : Addr} {n : Int} {ns : List Int} {fix : List (Addr × Obj)} {P : Prop} (xA xI xN : Str)
    (fx : FixD f la c' cA cI cN (fnMade name qual params body scope [(xN, cN), (xI, cI), (xA, cA)] doc pm c' ctv) qual n ns fix) (hr : ∀ d ∈ ns, 0 ≤ d ∧ d < 2 ^ n.toNat)
    (key : ∀ (doc pm ctv : Value) (f la c' cA cI cN : Addr) (n : Int) (ns : List Int) (fix : List (Addr × Obj)), FixD f la c' cA cI cN (fnMade name qual params body scope [(xN, cN), (xI, cI), (xA, cA)] doc pm c' ctv) qual n ns fix → (∀ d ∈ ns, 0 ≤ d ∧ d < 2 ^ n.toNat) → ∀ k, InnerD w p loose mean mg mb f n ns fix k)
    (h : (∀ k, InnerD w p loose mean mg mb f n ns fix k) → P) : P := h (key doc pm ctv f la c' cA cI cN n ns fix fx hr)
abbrev RetD (n : Int) (ns : List Int) (tab rest : List (Addr × Obj)) (h₀ : Heap) (L : Addr) (m : Str → Option Value) (s : Shared) (Q : Value → Shared → Prop) : Prop :=
  ∀ (v : Int) (t : Tok) (tab' : List (Addr × Obj)) h' tk', v = undigs n.toNat ns → TabS 37 47 4 qualD tab' → (∀ q ∈ tab', q ∈ tab ∨ q.1 = 37 ∨ ∀ r ∈ rest, r.1 < q.1) →
      Fr h₀ L h' m → News h₀ L h' (tab' ++ rest) → Q (.int v t) { s with heap := h', toks := tk' }
theorem newsD {h₀ h : Heap} {L : Addr} {led : List (Addr × Obj)} {P : Prop} (N : News h₀ L h led) (k : ∀ fix, fix = led → News h₀ L h fix → P) : P := k _ rfl N
section
variable {n : Int} {ns : List Int} {tab rest led : List (Addr × Obj)} {h₀ h' : Heap} {L : Addr} {m : Str → Option Value} {s : Shared} {Q : Value → Shared → Prop} {v : Int} {t : Tok} {tk' : Nat}
theorem endD_hit (hret : RetD n ns tab rest h₀ L m s Q) (N : News h₀ L h' led) (hv : v = undigs n.toNat ns) (F : Fr h₀ L h' m) (hT : TabS 37 47 4 qualD tab) (ht : ∀ q ∈ tab, q ∈ led) (hrs : ∀ q ∈ rest, q ∈ led) : Q (.int v t) { s with heap := h', toks := tk' } :=
  hret v t tab h' tk' hv hT (fun q hq => .inl hq) F fun q hq => N q ((List.mem_append.mp hq).elim (ht q) (hrs q))
theorem endD_miss {c' : Addr} {oc : Obj} {cv : Array Value} {ct : Tok} (hret : RetD n ns tab rest h₀ L m s Q) (N : News h₀ L h' led) (hv : v = undigs n.toNat ns) (F : Fr h₀ L h' m)
    (hm1 : ((37, tabObj #[rawInt ((47 : Nat) : Int), rawInt ((4 : Nat) : Int), .ref c']) : Addr × Obj) ∈ led) (hm2 : (c', oc) ∈ led) (hcd : oc.data = .fields cv) (hcv : cv[1]? = some (.str qualD ct)) (hc : 37 < c') (hcr : ∀ r ∈ rest, r.1 < c') (hrs : ∀ q ∈ rest, q ∈ led) : Q (.int v t) { s with heap := h', toks := tk' } := by
  refine hret v t _ h' tk' hv (TabS.full c' oc cv ct hcd hcv hc) ?_ F fun q hq => N q ?_
  · exact List.forall_mem_cons.mpr ⟨.inr (.inl rfl), List.forall_mem_cons.mpr ⟨.inr (.inr hcr), fun _ h => nomatch h⟩⟩
  · refine (List.mem_append.mp hq).elim (fun h => ?_) (hrs q)
    rcases List.mem_cons.mp h with rfl | h
    · exact hm1
    · rcases List.mem_cons.mp h with rfl | h
      · exact hm2
      · exact nomatch h
theorem undig_nil (hv : v = 0) (hn : ns = []) : v = undigs n.toNat ns := by rw [hv, hn]; rfl
theorem undig_all {R : Int} (hv : v = undigs n.toNat (seg ns 0 R)) (hR : R = (ns.length : Int)) : v = undigs n.toNat ns := by rw [hv, seg_all hR]
theorem preD_top {R : Int} (hR : R = (ns.length : Int)) (hne : ns ≠ []) (hl : ns.length ≤ 200000) (hn : 0 < n) (hn2 : n * (ns.length : Int) ≤ 2 ^ 26) : PreD n 0 R (ns.length : Int) 18 := by
  have h1 : 0 < ns.length := List.length_pos_iff.mpr hne
  have e18 : (2 : Int) ^ 18 = 262144 := rfl
  exact ⟨Int.le_refl _, by omega, by omega, by omega, by omega, hn2, hn⟩
end
def SpecD (w : World) (p : Program) (loose : List Str) (mean : ExcName → Option Value) (mg mb : Str → Option Value) : Prop :=
  ∀ (la : Addr) (vs : List Value) (c : Nat) (ns : List Int) (n : Int) (tn : Tok) (tab : List (Addr × Obj)) (dp un : Nat) (gd : Option (List Code)) (cn : Str) (cs : Scope) (a : Addr) (ccd : Value) (cl : List (Str × Addr)) (outer : List Env) (A₀ : Around) (base h₀ : Heap) (L : Addr) (m : Str → Option Value) (rest : List (Addr × Obj)) (s : Shared)
    (Q E : Value → Shared → Prop),
    (la, listOf vs.toArray c) ∈ rest → IntsAre vs ns → (∀ d ∈ ns, 0 ≤ d ∧ d < 2 ^ n.toNat) → ns.length ≤ 200000 → 0 < n → n * (ns.length : Int) ≤ 2 ^ 26 → CodeHd base 41 37 → TabS 37 47 4 qualD tab → (∀ q ∈ rest, q.1 ≠ 37) →
    Below A₀ base outer h₀ → Fr h₀ L s.heap m → (Mine.hd.heap_39 w.params).In h₀ → News h₀ L s.heap (tab ++ rest) → Top p loose mean mg mb h₀ → cs.kind = .function → dp + 20 < recursionLimit → un + 8*20 < cLine →
    RetD n ns tab rest h₀ L m s Q →
    wpAny (model PySem.Challenge.rw_wv0072_01.row.prog w) (ktrTop dp un gd cn cs L a ccd cl outer) (call (.ref 42) [.ref la, .int n tn]) Q E s
theorem specD : SpecD w p loose mean mg mb := by
  unfold SpecD
  k_fill
  intro la vs c ns n tn tab dp un gd cn cs aF ccd cl outer A₀ base h₀ L m rest s Q E hla hI hrg hlen hn hn2 hCd hT hr B F X NW T hk hd hu hret
  k_with_none
  k_with "m_ln" => omega
  rcases hT with _ | ⟨c8, oc8, cv8, ct8, hcd8, hcv8, hlt8⟩
  all_goals (
    simp only [List.cons_append, List.nil_append] at NW
    refine wpAny_call ?_
    k_dflt ((refine' code_defC ?k1 ?k2 ?k3 ?k4 ?k5 ?kA ?kF ?kK ?k6 ?k7 ?k8 ?k9 ?kB ?kD ?_ ?c2 ?c3 ?c4; (case kA => exact rfl); (case kF => exact rfl); (case kK => first | assumption | exact rfl); (case k1 => k_asm); (case k2 => k_asm); (case k3 => k_asm); (case k4 => k_asm); (case k5 => k_asm); (case k6 => k_is); (case k7 => k_is); (case k8 => ktr_room); (case k9 => exact BindsTo.of_eq rfl); (case kB => exact rfl); (case kD => decide +kernel); (case c2 => exact rfl); (case c3 => exact rfl); (case c4 => exact rfl); k_whole; intro g' L' h' tk' cells' FG' F' N' Y' B' X' T' l1; (try k_lt l1); k_cells Y'; (try simp only [List.cons_append, List.nil_append] at N'); (try dsimp only); (try k_lift B'); (try k_fold)))
    have hrl : ∀ q ∈ rest, q.1 < L' := by first | exact ktn_ltOf l1.2 | exact ktn_ltOf l1.2.2
    k_steps)
  rotate_left
  rotate_left
  all_goals try (
    (rename News _ _ _ _ => NN)
    (try simp only [Array.empty_append] at NN)
    (refine newsD NN ?_)
    intro fix hfix NN2
    (refine useD (Str.ofString "digits") (Str.ofString "inner") (Str.ofString "n") (w := w) (p := p) (loose := loose) (mean := mean) (mg := mg) (mb := mb) (fix := fix) (n := n) (ns := ns) (la := la) (FixD.mk (by rw [hfix]; exact List.Mem.head _) ⟨_, _, _, by rw [hfix]; k_mem, by assumption, by assumption⟩ ⟨_, by rw [hfix]; k_mem, by assumption⟩ ⟨_, by rw [hfix]; k_mem, by assumption⟩ ⟨_, _, by rw [hfix]; k_mem, by assumption⟩ ⟨vs, c, by rw [hfix]; k_mem, hI⟩) hrg ?_ ?_)
    · intro doc pm ctv f la c' cA cI cN n ns fix fx hrg
      have step : ∀ k, (∀ j, k = j + 1 → InnerD w p loose mean mg mb f n ns fix j) → InnerD w p loose mean mg mb f n ns fix k := by
        intro k IH
        obtain ⟨hf, ⟨oc, cvs, ct, hc, hcd, hcv⟩, ⟨oA, hA, hAd⟩, ⟨oI, hIm, hId⟩, ⟨oN, tN, hNm, hNd⟩, ⟨vs, c, hLm, hI⟩⟩ := fx
        unfold InnerD
        intro L R tL tR dp un gd cn cs aF ccd cl outer A₀ base h₀ Lf m s Q E pa hC B F X NW T hk hd hu hret
        have L0 := pa.L0
        have LR := pa.LR
        have Rl := pa.Rl
        have l1 := pa.l1
        k_with "m_nn" => first | decide | exact nn_shD pa (by assumption) (by assumption) (by assumption) (by assumption) (by assumption) (by assumption)
        k_with "m_sz" => exact sz_upD pa hrg (by assumption) (by assumption) (by assumption) (by assumption) (by assumption) (by assumption) (by assumption)
        k_with "m_ml" => exact ml_shD pa (by assumption) (by assumption) (by assumption) (by assumption) (by assumption)
        k_with "call ref" => (
          (obtain ⟨j, hj⟩ := pa.some (by assumption) (by assumption))
          (first
            | (refine innerD_use (by k_asm) (by k_asm) (by k_asm) (by k_asm) (by k_asm) (by first | exact rfl | assumption) (by kn_code) (IH j hj) (preD_up pa hj (by assumption) (by assumption) (by assumption) (by assumption)) (by ktr_room) (by ktr_units) ?_)
            | (refine innerD_use (by k_asm) (by k_asm) (by k_asm) (by k_asm) (by k_asm) (by first | exact rfl | assumption) (by kn_code) (IH j hj) (preD_low pa hj (by assumption) (by assumption) (by assumption) (by assumption)) (by ktr_room) (by ktr_units) ?_))
          intro v9 t9 h9 tk9 hv9 F9 N9
          (try dsimp only)
          (try k_fold))
        refine wpAny_call ?_
        k_dflt (refine' code_nest ?k1 ?k2 ?k3 ?k4 ?k5 ?kA ?kF ?kK ?k6 ?k7 ?k8 ?k9 ?kB ?_ ?c2 ?c3 ?c4 ?c5)
        case kA => exact rfl
        case kF => exact rfl
        case kK => assumption
        case k1 => k_asm
        case k2 => k_asm
        case k3 => k_asm
        case k4 => k_asm
        case k5 => k_asm
        case k6 => k_mem
        case k7 => exact codeRec_news (by k_asm) (by k_mem) (by assumption) (by assumption)
        case k8 => ktr_room
        case k9 => exact BindsTo.of_eq rfl
        case c5 => decide
        case kB => exact locs rfl
        case c2 => exact rfl
        case c3 => exact rfl
        case c4 => exact rfl
        k_whole
        intro g' L' h' FG' F' N' B' X' T'
        (try dsimp only)
        (try k_lift B')
        (try k_fold)
        k_steps
        all_goals first
          | exact hret _ _ _ _ (undig_one L0 Rl (by assumption) (by assumption) rfl) (by assumption) (by assumption)
          | exact hret _ _ _ _ (undig_two pa (by assumption) (by assumption) (by assumption) (by assumption) (by assumption) (by assumption) (by assumption) (by assumption) (by assumption) (by assumption)) (by assumption) (by assumption)
      intro k
      induction k with
      | zero => exact step 0 (fun j hj => by omega)
      | succ j ih => exact step (j+1) (fun i hi => by cases hi; exact ih)
    intro I
    (refine innerD_use (by k_asm) (by k_asm) (by k_asm) (by k_asm) (by k_asm) (by first | exact rfl | assumption) (by kn_code) (I 18) (preD_top (by assumption) (by assumption) hlen hn hn2) (by ktr_room) (by ktr_units) ?_)
    intro v8 t8 h8 tk8 hv8 F8 N8
    subst hfix
    (try dsimp only)
    (try k_fold)
    k_steps)
  all_goals (
    (rename News _ _ _ _ => KN)
    (try simp only [Array.empty_append] at KN)
    first
      | exact endD_hit hret KN (by first | exact undig_all (by assumption) (by assumption) | exact undig_nil rfl (by assumption)) (by assumption) (TabS.full c8 oc8 cv8 ct8 hcd8 hcv8 hlt8) (List.forall_mem_cons.mpr ⟨by k_mem, List.forall_mem_cons.mpr ⟨by k_mem, fun _ h => nomatch h⟩⟩) (by intro _ h; repeat (first | exact h | refine List.Mem.tail _ ?_))
      | exact endD_miss hret KN (by first | exact undig_all (by assumption) (by assumption) | exact undig_nil rfl (by assumption)) (by assumption) (by k_mem) (by k_mem) (by assumption) (by assumption) (by refine ltN ?_; omega) (fun r hr9 => by have h1 := ltN (hrl r hr9); refine ltN ?_; (try dsimp only); omega) (by intro _ h; repeat (first | exact h | refine List.Mem.tail _ ?_)))
end
end Mine
end
section
open PySem PySem.W PyProof.Rows PySem.Calls
set_option maxRecDepth 100000
set_option maxHeartbeats 8000000
namespace Mine
theorem offDv72 : True ∧ True := by
  w_top off
  first | (walk1; done) | exact ⟨trivial, trivial⟩
variable {w : World} {p : Program} {loose : List Str} {mean : ExcName → Option Value} {mg mb : Str → Option Value}


theorem m_n3 {N a12 a3 b b1 b2 n : Int} (h : Pre3 N a12 a3 b b1 b2 n) : 0 ≤ n := h.n0
theorem m_sz1 {N a12 a3 b b1 b2 n : Int} (h : Pre3 N a12 a3 b b1 b2 n) (hN : N ≤ 1000000) : (Builtin.Int.intBits 1 : Int) + n ≤ 2 ^ 27 := by
  have := h.nN
  have e : Builtin.Int.intBits 1 = 1 := by decide +kernel
  rw [e]; omega
theorem m_szb {N a12 a3 b b1 b2 n : Int} (h : Pre3 N a12 a3 b b1 b2 n) (hN : N ≤ 1000000) : (Builtin.Int.intBits b1 : Int) + n ≤ 2 ^ 27 := by
  have := h.nN
  have hp := p2pos n.toNat
  have := bits_le (by have := h.b10; omega) h.b1n
  have := h.n0
  omega
local macro_rules | `(tactic| walk_at "m_nn") => `(tactic| first | exact m_n3 (by assumption) | omega)
theorem m_szr1 {N a12 a3 b b1 b2 n x bq r0 r1 : Int} (h : Pre3 N a12 a3 b b1 b2 n) (hN : N ≤ 1000000)
    (hx : x = a12.fdiv (2 ^ n.toNat)) (he : x = b1) (hbq : bq = b1 * 2 ^ n.toNat) (hr0 : r0 = a12 - bq) (hr1 : r1 = r0 + b1) : (Builtin.Int.intBits r1 : Int) + n ≤ 2 ^ 27 := by
  obtain ⟨n0, nN, b0, hb, b10, b1n, tb, b20, b2n, a0, a30, a3n, an⟩ := h
  have hp := p2pos n.toNat
  rw [fdiv2] at hx
  have hd := Int.mul_ediv_add_emod a12 (2 ^ n.toNat)
  have hm0 := Int.emod_nonneg a12 (show (2 : Int) ^ n.toNat ≠ 0 by omega)
  have hm1 := Int.emod_lt_of_pos a12 hp
  rw [← hx, he, Int.mul_comm, ← hbq] at hd
  have e := p2succ n.toNat
  have := bits_le (a := r1) (k := n.toNat + 1) (by omega) (by omega)
  omega
theorem m_szr2 {N a12 a3 b b1 b2 n r1 : Int} (h : Pre3 N a12 a3 b b1 b2 n) (hN : N ≤ 1000000) (h2 : Pre2 N a12 b1 n)
    (hr1 : r1 = a12 % b1) : (Builtin.Int.intBits r1 : Int) + n ≤ 2 ^ 27 := by
  have h0 : 0 ≤ r1 := by subst hr1; exact Int.emod_nonneg _ (by have := h2.b0; omega)
  have h1 : r1 < b1 := by subst hr1; exact Int.emod_lt_of_pos _ h2.b0
  have := h.nN; have := h.n0
  have hp := p2pos n.toNat
  have := bits_le (a := r1) (k := n.toNat) (by omega) (by have := h.b1n; omega)
  omega
theorem m_ml1 {N a12 a3 b b1 b2 n q0 q : Int} (h : Pre3 N a12 a3 b b1 b2 n) (hN : N ≤ 1000000) (hq0 : q0 = 1 * 2 ^ n.toNat) (hq : q = q0 - 1) : IntMulOk q b2 := by
  have := h.nN; have := h.n0
  have hp := p2pos n.toNat
  refine IntMulOk.of_le (m := n.toNat) (n := n.toNat) (bits_le (by omega) (by omega)) (bits_le (by have := h.b20; omega) h.b2n) (by omega)
theorem m_ml2 {N a12 a3 b b1 b2 n q : Int} (h : Pre3 N a12 a3 b b1 b2 n) (hN : N ≤ 1000000) (h2 : Pre2 N a12 b1 n) (hq : q = a12 / b1) : IntMulOk q b2 := by
  have := h.nN; have := h.n0
  have hp := p2pos n.toNat
  have g0 : 0 ≤ q := by subst hq; exact Int.ediv_nonneg h2.a0 h.b10
  have g1 : q < 2 ^ n.toNat := by subst hq; exact (Int.ediv_lt_iff_lt_mul h2.b0).mpr (by rw [Int.mul_comm]; exact h2.an)
  refine IntMulOk.of_le (m := n.toNat) (n := n.toNat) (bits_le (by omega) g1) (bits_le (by have := h.b20; omega) h.b2n) (by omega)
theorem d3_turn {b A q r q' r' : Int} (h1 : q * b + r = A) (h2 : r < b) (h0 : r < 0) (hq : q' = q - 1) (hr : r' = r + b) : q' * b + r' = A ∧ r' < b := by
  subst hq hr
  refine ⟨?_, by omega⟩
  rw [Int.sub_mul]; omega
theorem d3_falls {N a12 a3 b b1 b2 n r r' : Int} (h : Pre3 N a12 a3 b b1 b2 n) (h0 : r < 0) (hr : r' = r + b) : (-r').toNat < (-r).toNat := by
  have := h.b0; omega
local macro_rules | `(tactic| walk_at "m_sz") => `(tactic| first | exact m_sz1 (by assumption) (by assumption) | exact m_szb (by assumption) (by assumption) | exact m_szr1 (by assumption) (by assumption) (by assumption) (by assumption) (by assumption) (by assumption) (by assumption) | exact m_szr2 (by assumption) (by assumption) (by assumption) (by assumption))
local macro_rules | `(tactic| walk_at "m_ml") => `(tactic| first | exact m_ml1 (by assumption) (by assumption) (by assumption) (by assumption) | exact m_ml2 (by assumption) (by assumption) (by assumption) (by assumption))


theorem div3_step (N a12 a3 b b1 b2 n : Int) (t1 t2 t3 t4 t5 t6 : Tok) (sz : Nat) (pre : Pre3 N a12 a3 b b1 b2 n) (hN : N ≤ 1000000)
    (IH : ∀ (a b n : Int) (ta tb tn : Tok), Pre2 N a b n → Spec2 w p loose mean mg mb 21 [.int a ta, .int b tb, .int n tn] sz (fun x y => x = a / b ∧ y = a % b)) :
    Spec2 w p loose mean mg mb 28 [.int a12 t1, .int a3 t2, .int b t3, .int b1 t4, .int b2 t5, .int n t6] (sz + 1) (fun x y => x = (a12 * 2 ^ n.toNat + a3) / b ∧ y = (a12 * 2 ^ n.toNat + a3) % b) := by
  unfold Spec2
  k_fill
  intro dp un gd cn cs a ccd cl outer A₀ base h₀ L m news s Q E B F X NW T hk hd hu hret
  k_with_none
  k_with "exec While Compare cons nil" => k_while (fun (_ : List Int) (q r : Int) => q * b + r = a12 * 2 ^ n.toNat + a3 ∧ r < b) (fun (_ : List Int) (_ r : Int) => (-r).toNat) "q" "r"
  k_with "state" => first | exact d3_one pre (by assumption) (by assumption) (by first | assumption | (subst_vars; rfl)) (by assumption) (by assumption) (by assumption) (by assumption) (by assumption) (by assumption) (by assumption) | exact d3_two pre (by assumption) (by assumption) (by assumption) (by assumption) (by assumption) (by assumption) (by assumption) (by assumption) | exact d3_turn (by assumption) (by assumption) (by assumption) (by assumption) (by assumption)
  k_with "measure" => exact d3_falls pre (by assumption) (by assumption)
  k_with "call ref" => ((have p2 := d3_two_pre pre (by assumption) (by assumption)); (refine' spec2_use ?k1 ?k2 ?k3 ?k4 ?k5 ?kK (IH _ _ _ _ _ _ p2) ?kd ?ku ?_); (case k1 => k_asm); (case k2 => k_asm); (case k3 => k_asm); (case k4 => k_asm); (case k5 => k_asm); (case kK => first | exact rfl | assumption); (case kd => ktr_room); (case ku => ktr_units); intro x9 y9 D9 t9 u9 c9 h9 tk9 hP9 F9 N9 l9; obtain ⟨hx9, hy9⟩ := hP9; (try dsimp only); (try k_fold))
  refine wpAny_call ?_
  k_dflt ktr_enter
  k_steps
  all_goals (refine ret2_end hret (by assumption) (by assumption) (by k_mem) ?hn ?hl (d3_end pre ⟨by assumption, by assumption⟩ (by assumption)); (case hn => intro _ h; repeat (first | exact h | refine List.Mem.tail _ ?_)); (case hl => first | assumption | exact lt_of1 (by assumption) | exact lt_of2 (by assumption)))
end Mine
end
section
open PySem PySem.W PyProof.Rows PySem.Calls
set_option maxRecDepth 100000
set_option maxHeartbeats 8000000
namespace Mine
theorem offDe72 : True ∧ True := by
  w_top off
  first | (walk1; done) | exact ⟨trivial, trivial⟩
variable {w : World} {p : Program} {loose : List Str} {mean : ExcName → Option Value} {mg mb : Str → Option Value}



theorem even_of {pad n : Int} (h : pad = Builtin.bitAnd n 1) (h0 : pad = 0) : Builtin.bitAnd n 1 = 0 := h ▸ h0
theorem nn_h {N a b n h : Int} (hh : h = n.fdiv (2 ^ (1 : Int).toNat)) (he : Builtin.bitAnd n 1 = 0) (p : Pre2 N a b n) : 0 ≤ h := (half_pow p.n0 he hh).2.1
theorem sz_h {N a b n h : Int} (hh : h = n.fdiv (2 ^ (1 : Int).toNat)) (he : Builtin.bitAnd n 1 = 0) (p : Pre2 N a b n) (hN : N ≤ 1000000) : (Builtin.Int.intBits 1 : Int) + h ≤ 2 ^ 27 := by
  have := half_pow p.n0 he hh
  have := p.nN
  have e : Builtin.Int.intBits 1 = 1 := by decide +kernel
  rw [e]; omega
theorem pre2_bits {N a b n : Int} (p : Pre2 N a b n) : Builtin.Int.intBits a ≤ n.toNat + n.toNat := by
  have hp := p2pos n.toNat
  refine bits_le (by rw [p2add]; have := Int.mul_pos hp hp; have := p.a0; omega) ?_
  rw [p2add]
  have := p.an
  have := Int.mul_lt_mul_of_pos_right p.bn hp
  omega
theorem sz_a1 {N a b n : Int} (p : Pre2 N a b n) (hN : N ≤ 1000000) : (Builtin.Int.intBits a : Int) + 1 ≤ 2 ^ 27 := by
  have := pre2_bits p; have := p.nN; have := p.n0; omega
theorem sz_b1 {N a b n : Int} (p : Pre2 N a b n) (hN : N ≤ 1000000) : (Builtin.Int.intBits b : Int) + 1 ≤ 2 ^ 27 := by
  have hp := p2pos n.toNat
  have := bits_le (by have := p.b0; omega) p.bn
  have := p.nN; have := p.n0; omega
theorem long_of {N a b n : Int} (p : Pre2 N a b n) (h : ¬ (Builtin.Int.intBits a : Int) - n ≤ 4000) : 4000 < n := by
  have := pre2_bits p; have := p.n0; omega
theorem sz_q1 {M x1 x3 b b1 b2 h q1 : Int} (hq1 : q1 = (x1 * 2 ^ h.toNat + x3) / b) (p : Pre3 M x1 x3 b b1 b2 h) (hM : M ≤ 1000000) : (Builtin.Int.intBits q1 : Int) + h ≤ 2 ^ 27 := by
  have hp := p2pos h.toNat
  have h0 : 0 ≤ x1 * 2 ^ h.toNat + x3 := by
    have := Int.mul_nonneg p.a0 (Int.le_of_lt hp); have := p.a30; omega
  have h1 : 0 ≤ q1 := by subst hq1; exact Int.ediv_nonneg h0 (Int.le_of_lt p.b0)
  have h2 : q1 < 2 ^ h.toNat := by subst hq1; exact (Int.ediv_lt_iff_lt_mul p.b0).mpr (by have h9 := p.an; rw [Int.mul_comm b] at h9; exact h9)
  have := bits_le (by omega) h2
  have := p.nN; have := p.n0; omega
theorem pre_one {N M a b n h mk0 mk b1 b2 x1 x2 x3 : Int} (hh : h = n.fdiv (2 ^ (1 : Int).toNat)) (he : Builtin.bitAnd n 1 = 0) (p : Pre2 N a b n) (hM : N ≤ 2 * M + 1)
    (hb1 : b1 = b.fdiv (2 ^ h.toNat)) (hb2 : b2 = Builtin.bitAnd b mk) (hmk : mk = mk0 - 1) (hmk0 : mk0 = 1 * 2 ^ h.toNat)
    (hx1 : x1 = a.fdiv (2 ^ n.toNat)) (hx3 : x3 = Builtin.bitAnd x2 mk) (hx2 : x2 = a.fdiv (2 ^ h.toNat)) : Pre3 M x1 x3 b b1 b2 h :=
  (d2_first p he hh (by have := half_pow p.n0 he hh; have := p.nN; omega) (hmk0 ▸ hmk) hb1 hb2 hx1 hx2 hx3).1
theorem pre_two {M a b h mk0 mk b1 b2 x1 x3 r1 y : Int} (hr1 : r1 = (x1 * 2 ^ h.toNat + x3) % b) (hy : y = Builtin.bitAnd a mk) (hmk : mk = mk0 - 1) (hmk0 : mk0 = 1 * 2 ^ h.toNat) (p : Pre3 M x1 x3 b b1 b2 h) : Pre3 M r1 y b b1 b2 h :=
  d2_second p (hmk0 ▸ hmk) hr1 hy
theorem d2_fin {N M a b n h mk0 mk b1 b2 x1 x2 x3 q1 r1 y q2 r2 qs q : Int} (hq : q = Builtin.bitOr qs q2) (hqs : qs = q1 * 2 ^ h.toNat)
    (hr2 : r2 = (r1 * 2 ^ h.toNat + y) % b) (hq2 : q2 = (r1 * 2 ^ h.toNat + y) / b) (hq1 : q1 = (x1 * 2 ^ h.toNat + x3) / b) (hr1 : r1 = (x1 * 2 ^ h.toNat + x3) % b)
    (hy : y = Builtin.bitAnd a mk) (hmk : mk = mk0 - 1) (hmk0 : mk0 = 1 * 2 ^ h.toNat) (hh : h = n.fdiv (2 ^ (1 : Int).toNat)) (he : Builtin.bitAnd n 1 = 0) (p : Pre2 N a b n) (p3 : Pre3 M x1 x3 b b1 b2 h)
    (hb1 : b1 = b.fdiv (2 ^ h.toNat)) (hb2 : b2 = Builtin.bitAnd b mk)
    (hx1 : x1 = a.fdiv (2 ^ n.toNat)) (hx3 : x3 = Builtin.bitAnd x2 mk) (hx2 : x2 = a.fdiv (2 ^ h.toNat)) : q = a / b ∧ r2 = a % b :=
  d2_end p.a0 p3 (d2_first p he hh (M := h) (Int.le_refl _) (hmk0 ▸ hmk) hb1 hb2 hx1 hx2 hx3).2 (hmk0 ▸ hmk) hq1 hr1 hy hq2 hr2 hqs hq
theorem d2_fin_pad {a b a' b' q r r' : Int} (hr : r' = r.fdiv (2 ^ (1 : Int).toNat)) (h : q = a' / b' ∧ r = a' % b') (e1 : a' / b' = a / b) (e2 : (a' % b').fdiv (2 ^ (1 : Int).toNat) = a % b) : q = a / b ∧ r' = a % b := by
  refine ⟨by rw [h.1, e1], ?_⟩
  rw [hr, h.2, e2]

theorem no_road' {N a b n q : Int} (p : Pre2 N a b n) (hq : q = (Builtin.Int.intBits a : Int) - n) (h : q ≤ 4000) : Builtin.divisionGoesByPylong a b = false := no_road p (hq ▸ h)
theorem long_of' {N a b n q : Int} (p : Pre2 N a b n) (hq : q = (Builtin.Int.intBits a : Int) - n) (h : ¬ q ≤ 4000) : 4000 < n := long_of p (hq ▸ h)
theorem dm_end {N a b n x y : Int} (p : Pre2 N a b n) (hx : x = a.fdiv b) (hy : y = a.fmod b) : x = a / b ∧ y = a % b := by
  rw [fdivp p.b0] at hx; rw [fmodp p.b0] at hy; exact ⟨hx, hy⟩
theorem d2_pad' {N a b n a' b' n' pad : Int} (p : Pre2 N a b n) (ha : a' = a * 2 ^ (1 : Int).toNat) (hb : b' = b * 2 ^ (1 : Int).toNat) (hn : n' = n + 1) (hp : pad = Builtin.bitAnd n 1) (hN : pad ≠ 0) :
    Pre2 (N + 1) a' b' n' ∧ Builtin.bitAnd n' 1 = 0 ∧ a' / b' = a / b ∧ (a' % b').fdiv (2 ^ (1 : Int).toNat) = a % b := d2_pad p ha hb hn (hp ▸ hN)

set_option hygiene false in
local macro_rules | `(tactic| walk_at "inplaceOp Add int int") => `(tactic| (with_reducible refine r_iadd ?_; intro qv hqv; (have hpd := d2_pad' pre (by assumption) (by assumption) hqv (by assumption) (by assumption)); obtain ⟨hpp, hev, hea, heb⟩ := hpd))
set_option hygiene false in
local macro_rules | `(tactic| walk_at "binaryOp RShift int int") => `(tactic| (with_reducible refine r_shr ?m_nn ?_; (case m_nn => walk_at "m_nn"); intro qv hqv; (try (have hev : Builtin.bitAnd n 1 = 0 := even_of (by assumption) (by assumption)))))
local macro_rules | `(tactic| walk_at "m_nn") => `(tactic| first | exact Pre2.n0 (by assumption) | exact nn_h (by assumption) (by assumption) (by assumption) | decide)
local macro_rules | `(tactic| walk_at "m_sz") => `(tactic| first | exact sz_h (by assumption) (by assumption) (by assumption) (by assumption) | exact sz_a1 (by assumption) (by assumption) | exact sz_b1 (by assumption) (by assumption) | exact sz_q1 (by assumption) (by assumption) (by assumption))

theorem div2_step (N M a b n : Int) (ta tb tn : Tok) (sz : Nat) (pre : Pre2 N a b n) (hN : N ≤ 1000000) (hN1 : N + 1 ≤ 1000000) (hM : M ≤ 1000000) (hMa : N ≤ 2 * M + 1) (hMb : N + 1 ≤ 2 * M + 1)
    (IH : 4000 < n → ∀ (a12 a3 b b1 b2 n : Int) (t1 t2 t3 t4 t5 t6 : Tok), Pre3 M a12 a3 b b1 b2 n → Spec2 w p loose mean mg mb 28 [.int a12 t1, .int a3 t2, .int b t3, .int b1 t4, .int b2 t5, .int n t6] sz (fun x y => x = (a12 * 2 ^ n.toNat + a3) / b ∧ y = (a12 * 2 ^ n.toNat + a3) % b)) :
    Spec2 w p loose mean mg mb 21 [.int a ta, .int b tb, .int n tn] (sz + 1) (fun x y => x = a / b ∧ y = a % b) := by
  unfold Spec2
  k_fill
  intro dp un gd cn cs aF ccd cl outer A₀ base h₀ L m news s Q E B F X NW T hk hd hu hret
  k_with_none
  k_with "call builtin:divmod" => ((with_reducible show wpAny _ _ (call (Value.builtin _) [Value.int _ _, Value.int _ _]) _ _ _); (refine r_divmod (by assumption) (by assumption) (Int.ne_of_gt pre.b0) (Or.inl (no_road' pre (by assumption) (by assumption))) ?_); intro x9 y9 h9 hx9 hy9 F9 N9 l9; (try dsimp only))
  k_with "call ref" => ((have hlg := long_of' pre (by assumption) (by assumption)); (refine' spec2_useR ?k1 ?k2 ?k3 ?k4 ?k5 ?kK (IH hlg _ _ _ _ _ _ _ _ _ _ _ _) ?kp ?kd ?ku ?_); (case k1 => k_asm); (case k2 => k_asm); (case k3 => k_asm); (case k4 => k_asm); (case k5 => k_asm); (case kK => first | exact rfl | assumption); (case kd => ktr_room); (case ku => ktr_units); (case kp => first | exact pre_one (by assumption) (by assumption) (by assumption) (by assumption) (by assumption) (by assumption) (by assumption) (by assumption) (by assumption) (by assumption) (by assumption) | exact pre_two (by assumption) (by assumption) (by assumption) (by assumption) (by assumption)); intro x9 y9 D9 t9 u9 c9 h9 tk9 hR9 hP9 F9 N9 l9; obtain ⟨hx9, hy9⟩ := hP9; (try k_lt l9); (try dsimp only); (try k_fold))
  refine wpAny_call ?_
  k_dflt ktr_enter
  k_steps
  all_goals first
    | (exfalso; contradiction)
    | (refine ret2_end hret (by assumption) (by assumption) (by k_mem) ?hn ?hl ?hp; (case hn => intro _ h; repeat (first | exact h | refine List.Mem.tail _ ?_)); (case hl => first | assumption | exact lt_of1 (by assumption) | exact lt_of2 (by assumption) | exact lt_of3 (by assumption)); (case hp => first | exact dm_end pre (by assumption) (by assumption) | exact d2_fin (by assumption) (by assumption) (by assumption) (by assumption) (by assumption) (by assumption) (by assumption) (by assumption) (by assumption) (by assumption) (by assumption) (by assumption) (by assumption) (by assumption) (by assumption) (by assumption) (by assumption) (by assumption) | exact d2_fin_pad (by assumption) (d2_fin (by assumption) (by assumption) (by assumption) (by assumption) (by assumption) (by assumption) (by assumption) (by assumption) (by assumption) (by assumption) (by assumption) (by assumption) (by assumption) (by assumption) (by assumption) (by assumption) (by assumption) (by assumption)) (by assumption) (by assumption)))
end Mine
end
section
open PySem PySem.W PyProof.Rows PySem.Calls
set_option maxRecDepth 100000
namespace Mine
section
variable {w : World} {p : Program} {loose : List Str} {mean : ExcName → Option Value} {mg mb : Str → Option Value}
theorem div_all : ∀ k : Nat, k ≤ 6 →
    (∀ (a b n : Int) (ta tb tn : Tok), Pre2 (4000 * 2 ^ k) a b n → Spec2 w p loose mean mg mb 21 [.int a ta, .int b tb, .int n tn] (2 * k + 1) (fun x y => x = a / b ∧ y = a % b)) ∧
    (∀ (a12 a3 b b1 b2 n : Int) (t1 t2 t3 t4 t5 t6 : Tok), Pre3 (4000 * 2 ^ k) a12 a3 b b1 b2 n → Spec2 w p loose mean mg mb 28 [.int a12 t1, .int a3 t2, .int b t3, .int b1 t4, .int b2 t5, .int n t6] (2 * k + 2) (fun x y => x = (a12 * 2 ^ n.toNat + a3) / b ∧ y = (a12 * 2 ^ n.toNat + a3) % b)) := by
  intro k
  induction k with
  | zero =>
    intro _
    have h2 : ∀ (a b n : Int) (ta tb tn : Tok), Pre2 (4000 * 2 ^ 0) a b n → Spec2 w p loose mean mg mb 21 [.int a ta, .int b tb, .int n tn] (2 * 0 + 1) (fun x y => x = a / b ∧ y = a % b) := by
      intro a b n ta tb tn pre
      exact div2_step (4000 * 2 ^ 0) 4000 a b n ta tb tn 0 pre (by decide) (by decide) (by decide) (by decide) (by decide) (fun h => absurd pre.nN (by omega))
    exact ⟨h2, fun a12 a3 b b1 b2 n t1 t2 t3 t4 t5 t6 pre => div3_step _ a12 a3 b b1 b2 n t1 t2 t3 t4 t5 t6 _ pre (by decide) h2⟩
  | succ k ih =>
    intro hk
    obtain ⟨i2, i3⟩ := ih (by omega)
    have e : (4000 : Int) * 2 ^ (k + 1) = 2 * (4000 * 2 ^ k) := by rw [p2succ]; omega
    have hb : (2 : Int) ^ k ≤ 2 ^ 5 := p2mono (by omega)
    have e5 : (2 : Int) ^ 5 = 32 := rfl
    have h2 : ∀ (a b n : Int) (ta tb tn : Tok), Pre2 (4000 * 2 ^ (k + 1)) a b n → Spec2 w p loose mean mg mb 21 [.int a ta, .int b tb, .int n tn] (2 * (k + 1) + 1) (fun x y => x = a / b ∧ y = a % b) := by
      intro a b n ta tb tn pre
      exact div2_step (4000 * 2 ^ (k + 1)) (4000 * 2 ^ k) a b n ta tb tn (2 * k + 2) pre (by omega) (by omega) (by omega) (by omega) (by omega) (fun _ => i3)
    exact ⟨h2, fun a12 a3 b b1 b2 n t1 t2 t3 t4 t5 t6 pre => div3_step _ a12 a3 b b1 b2 n t1 t2 t3 t4 t5 t6 _ pre (by omega) h2⟩
theorem div2_spec (a b n : Int) (ta tb tn : Tok) (h : Pre2 64000 a b n) : Spec2 w p loose mean mg mb 21 [.int a ta, .int b tb, .int n tn] 9 (fun x y => x = a / b ∧ y = a % b) := (div_all 4 (by decide)).1 a b n ta tb tn h
theorem div3_spec (a12 a3 b b1 b2 n : Int) (t1 t2 t3 t4 t5 t6 : Tok) (h : Pre3 64000 a12 a3 b b1 b2 n) : Spec2 w p loose mean mg mb 28 [.int a12 t1, .int a3 t2, .int b t3, .int b1 t4, .int b2 t5, .int n t6] 10 (fun x y => x = (a12 * 2 ^ n.toNat + a3) / b ∧ y = (a12 * 2 ^ n.toNat + a3) % b) := (div_all 4 (by decide)).2 a12 a3 b b1 b2 n t1 t2 t3 t4 t5 t6 h
end
end Mine
end
section
open PySem PySem.W PyProof.Rows PySem.Calls
set_option maxRecDepth 100000
set_option maxHeartbeats 8000000
namespace Mine
theorem offLa72 : True ∧ True := by
  w_top off
  first | (walk1; done) | exact ⟨trivial, trivial⟩
variable {w : World} {p : Program} {loose : List Str} {mean : ExcName → Option Value} {mg mb : Str → Option Value}



set_option hygiene false in
local macro_rules | `(tactic| walk_at "binaryOp Mod int int") => `(tactic| (with_reducible refine r_modp ?m_ps ?_; (case m_ps => walk_at "m_ps"); intro qv hqv hq0 hq1))
set_option hygiene false in
local macro_rules | `(tactic| walk_at "binaryOp FloorDiv int int") => `(tactic| (with_reducible refine r_fdivp ?m_ps ?m_ps2 ?_; (case m_ps => walk_at "m_ps"); (case m_ps2 => walk_at "m_ps2"); intro qv hqv))
local macro_rules | `(tactic| walk_at "m_ps") => `(tactic| first | decide | omega)
local macro_rules | `(tactic| walk_at "m_ps2") => `(tactic| first | decide | omega)
local macro_rules | `(tactic| walk_at "m_nn") => `(tactic| first | decide | omega)
theorem la_sz1 {r long : Int} (hl : long = 1 + r) (h1 : r < 1499) : (Builtin.Int.intBits 1 : Int) + long ≤ 2 ^ 27 := by
  have e : Builtin.Int.intBits 1 = 1 := by decide +kernel
  rw [e]; omega
theorem la_szv {r long v : Int} {k j n : Nat} (hl : long = 1 + r) (h1 : r < 1499) (hv0 : 0 ≤ v) (hv : v < 2 ^ (1499 * k)) (hn : n = k + (j + 1)) (hn2 : n ≤ 36) : (Builtin.Int.intBits v : Int) + long ≤ 2 ^ 27 := by
  have hp := p2pos (1499 * k)
  have := bits_le (by omega) hv
  omega
local macro_rules | `(tactic| walk_at "m_sz") => `(tactic| first | exact la_sz1 (by assumption) (by assumption) | exact la_szv (by assumption) (by assumption) (by assumption) (by assumption) (by assumption) (by assumption))
theorem la_state {v r long o0 o th fo x i vs v' kN : Int} {pre : List Int} (hv' : v' = vs + [o, 1, th, fo].getD i.toNat 0) (hvs : vs = v * 2 ^ long.toNat) (hi0 : 0 ≤ i) (hi1 : i < 4) (hfo : fo = Builtin.bitAnd x o)
    (hth : th = o / 3) (ho : o = o0 - 1) (ho0 : o0 = 1 * 2 ^ long.toNat) (hl : long = 1 + r) (hr0 : 0 ≤ r) (hr1 : r < 1499) (hv : 0 ≤ v) (hvk : v < 2 ^ (1499 * pre.length)) : 0 ≤ v' ∧ v' < 2 ^ (1499 * (pre ++ [kN]).length) := by
  have hp := p2pos long.toNat
  have hp2 : (2 : Int) ≤ 2 ^ long.toNat := by
    have h := p2mono (j := 1) (k := long.toNat) (by omega)
    have e : (2 : Int) ^ 1 = 2 := rfl
    omega
  rw [Int.one_mul] at ho0
  have hb := bitAnd_range x (y := o) (by omega)
  rw [← hfo] at hb
  have hpc : 0 ≤ [o, 1, th, fo].getD i.toNat 0 ∧ [o, 1, th, fo].getD i.toNat 0 < 2 ^ long.toNat := by
    have : i.toNat = 0 ∨ i.toNat = 1 ∨ i.toNat = 2 ∨ i.toNat = 3 := by omega
    rcases this with h | h | h | h <;> rw [h] <;> simp only [List.getD_cons_zero, List.getD_cons_succ] <;> omega
  generalize [o, 1, th, fo].getD i.toNat 0 = pc at *
  have hvs0 : 0 ≤ vs := by rw [hvs]; exact Int.mul_nonneg hv (Int.le_of_lt hp)
  refine ⟨by omega, ?_⟩
  have h1 := mul_lt_of hp hvk hpc.2
  have h2 : (2 : Int) ^ (1499 * pre.length) * 2 ^ long.toNat ≤ 2 ^ (1499 * (pre ++ [kN]).length) := by
    rw [← p2add]
    refine p2mono ?_
    rw [List.length_append, List.length_singleton]
    omega
  rw [← hvs, ← hv'] at h1
  omega
theorem la_zero : (0 : Int) ≤ 0 ∧ (0 : Int) < 2 ^ (1499 * ([] : List Int).length) := ⟨Int.le_refl _, p2pos _⟩
def SpecLaid (w : World) (p : Program) (loose : List Str) (mean : ExcName → Option Value) (mg mb : Str → Option Value) : Prop :=
  ∀ (ys : List Value) (ns : List Int) (l : Addr) (dp un : Nat) (gd : Option (List Code)) (cn : Str) (cs : Scope) (a : Addr) (ccd : Value) (cl : List (Str × Addr)) (outer : List Env) (A₀ : Around) (base h₀ : Heap) (L : Addr) (m : Str → Option Value) (news : List (Addr × Obj)) (s : Shared)
    (Q E : Value → Shared → Prop),
    IntsAre ys ns → ns.length ≤ 36 →
    Below A₀ base outer h₀ → Fr h₀ L s.heap m → (Mine.hd.heap_39 w.params).In h₀ → News h₀ L s.heap ((l, LCg.lst ys) :: news) → Top p loose mean mg mb h₀ → cs.kind = .function → dp + 1 < recursionLimit → un + 8 < cLine →
    Ret1 h₀ L m ((l, LCg.lst ys) :: news) s Q (fun v => 0 ≤ v ∧ v < 2 ^ (1499 * ns.length)) →
    wpAny (model PySem.Challenge.rw_wv0072_01.row.prog w) (ktrTop dp un gd cn cs L a ccd cl outer) (call (.ref 63) [.ref l]) Q E s

theorem laid_spec : SpecLaid w p loose mean mg mb := by
  unfold SpecLaid
  k_fill
  intro ys ns l dp un gd cn cs aF ccd cl outer A₀ base h₀ L m news s Q E hI hlen B F X NW T hk hd hu hret
  k_with_none
  k_with "pyIter ref" => k_state (fun pre (v : Int) => 0 ≤ v ∧ v < 2 ^ (1499 * pre.length)) "value"
  k_with "state" => first | exact la_zero | exact la_state (by assumption) (by assumption) (by assumption) (by assumption) (by assumption) (by assumption) (by assumption) (by assumption) (by assumption) (by assumption) (by assumption) (by assumption) (by assumption)
  refine wpAny_call ?_
  k_dflt ktr_enter
  k_steps
  all_goals exact hret _ _ _ _ ⟨by assumption, by assumption⟩ (by assumption) (by assumption)
end Mine
end
section
open PySem PySem.W PyProof.Rows PySem.Calls
set_option maxRecDepth 100000
set_option maxHeartbeats 8000000
namespace Mine
theorem offDp72 : True ∧ True := by
  w_top off
  first | (walk1; done) | exact ⟨trivial, trivial⟩
section
variable {w : World} {p : Program} {loose : List Str} {mean : ExcName → Option Value} {mg mb : Str → Option Value}


local macro_rules | `(tactic| k_mem) => `(tactic| assumption)
set_option hygiene false in
local macro_rules | `(tactic| walk_at "call builtin:int.bit_length") => `(tactic| (with_reducible refine r_bitlen ?_; intro nv hnv))
/-- both tables of codes -/
structure TabsOk (tA tD : List (Addr × Obj)) : Prop where
  a : TabS 30 32 4 qualA tA
  d : TabS 37 47 4 qualD tD
  aD : ∀ q ∈ tA, q.1 ≠ 37
  dA : ∀ q ∈ tD, q.1 ≠ 30
abbrev RetP (P : Int → Int → Prop) (rest : List (Addr × Obj)) (h₀ : Heap) (L : Addr) (m : Str → Option Value) (s : Shared) (Q : Value → Shared → Prop) : Prop :=
  ∀ (x y : Int) (D : Addr) (t u : Tok) (c : Nat) (tA' tD' : List (Addr × Obj)) (h' : Heap) (tk' : Nat), P x y → TabsOk tA' tD' → Fr h₀ L h' m →
    News h₀ L h' ((D, ({ cls := .type "tuple", data := .seq #[.int x t, .int y u] c } : Obj)) :: (tA' ++ (tD' ++ rest))) → (∀ p ∈ rest, p.1 < D) → 30 < D → 37 < D → Q (.ref D) { s with heap := h', toks := tk' }
/-- the contract of a def that reckons a quotient and a rest, both tables at hand -/
def SpecQ (w : World) (p : Program) (loose : List Str) (mean : ExcName → Option Value) (mg mb : Str → Option Value) (f : Addr) (vs : List Value) (sz : Nat) (P : Int → Int → Prop) : Prop :=
  ∀ (tA tD : List (Addr × Obj)) (dp un : Nat) (gd : Option (List Code)) (cn : Str) (cs : Scope) (a : Addr) (ccd : Value) (cl : List (Str × Addr)) (outer : List Env) (A₀ : Around) (base h₀ : Heap) (L : Addr) (m : Str → Option Value) (rest : List (Addr × Obj)) (s : Shared)
    (Q E : Value → Shared → Prop),
    TabsOk tA tD → (∀ q ∈ rest, q.1 ≠ 30) → (∀ q ∈ rest, q.1 ≠ 37) → CodeHd base 34 30 → CodeHd base 41 37 →
    Below A₀ base outer h₀ → Fr h₀ L s.heap m → (Mine.hd.heap_39 w.params).In h₀ → News h₀ L s.heap (tA ++ (tD ++ rest)) → Top p loose mean mg mb h₀ → cs.kind = .function → dp + sz < recursionLimit → un + 8 * sz < cLine →
    RetP P rest h₀ L m s Q →
    wpAny (model PySem.Challenge.rw_wv0072_01.row.prog w) (ktrTop dp un gd cn cs L a ccd cl outer) (call (.ref f) vs) Q E s
theorem specA_use {x n : Int} {tx tn : Tok} {tab : List (Addr × Obj)} {dp un : Nat} {gd : Option (List Code)} {cn : Str} {cs : Scope} {a : Addr} {ccd : Value} {cl : List (Str × Addr)} {outer : List Env} {A₀ : Around} {base h₀ : Heap} {L : Addr} {m : Str → Option Value} {rest : List (Addr × Obj)} {s : Shared}
    {Q E : Value → Shared → Prop} (B : Below A₀ base outer h₀) (F : Fr h₀ L s.heap m) (X : (Mine.hd.heap_39 w.params).In h₀) (N : News h₀ L s.heap (tab ++ rest)) (T : Top p loose mean mg mb h₀) (hk : cs.kind = .function)
    (hx : 0 ≤ x) (hn : 0 < n) (hn2 : n ≤ 64000) (hb : Builtin.Int.intBits x ≤ 200000) (hC : CodeHd base 34 30) (hT : TabS 30 32 4 qualA tab) (hr : ∀ q ∈ rest, q.1 ≠ 30) (hd : dp + 20 < recursionLimit) (hu : un + 8*20 < cLine)
    (h : RetA x n tab rest h₀ L m s Q) : wpAny (model PySem.Challenge.rw_wv0072_01.row.prog w) (ktrTop dp un gd cn cs L a ccd cl outer) (call (.ref 35) [.int x tx, .int n tn]) Q E s :=
  specA _ _ _ _ _ _ _ _ _ _ _ _ _ _ _ _ _ _ _ _ _ _ _ hx hn hn2 hb hC hT hr B F X N T hk hd hu h
theorem specD_use {la : Addr} {vs : List Value} {c : Nat} {ns : List Int} {n : Int} {tn : Tok} {tab : List (Addr × Obj)} {dp un : Nat} {gd : Option (List Code)} {cn : Str} {cs : Scope} {a : Addr} {ccd : Value} {cl : List (Str × Addr)} {outer : List Env} {A₀ : Around} {base h₀ : Heap} {L : Addr} {m : Str → Option Value} {rest : List (Addr × Obj)} {s : Shared}
    {Q E : Value → Shared → Prop} (B : Below A₀ base outer h₀) (F : Fr h₀ L s.heap m) (X : (Mine.hd.heap_39 w.params).In h₀) (N : News h₀ L s.heap (tab ++ rest)) (T : Top p loose mean mg mb h₀) (hk : cs.kind = .function)
    (hl : (la, listOf vs.toArray c) ∈ rest) (hI : IntsAre vs ns) (hrg : ∀ d ∈ ns, 0 ≤ d ∧ d < 2 ^ n.toNat) (hlen : ns.length ≤ 200000) (hn : 0 < n) (hn2 : n * (ns.length : Int) ≤ 2 ^ 26) (hC : CodeHd base 41 37) (hT : TabS 37 47 4 qualD tab) (hr : ∀ q ∈ rest, q.1 ≠ 37) (hd : dp + 20 < recursionLimit) (hu : un + 8*20 < cLine)
    (h : RetD n ns tab rest h₀ L m s Q) : wpAny (model PySem.Challenge.rw_wv0072_01.row.prog w) (ktrTop dp un gd cn cs L a ccd cl outer) (call (.ref 42) [.ref la, .int n tn]) Q E s :=
  specD _ _ _ _ _ _ _ _ _ _ _ _ _ _ _ _ _ _ _ _ _ _ _ _ _ hl hI hrg hlen hn hn2 hC hT hr B F X N T hk hd hu h
theorem app_ne {P : Addr} {a b : List (Addr × Obj)} (h1 : ∀ q ∈ a, q.1 ≠ P) (h2 : ∀ q ∈ b, q.1 ≠ P) : ∀ q ∈ a ++ b, q.1 ≠ P := fun q hq => (List.mem_append.mp hq).elim (h1 q) (h2 q)
theorem cons_ne {P : Addr} {e : Addr × Obj} {b : List (Addr × Obj)} (h1 : e.1 ≠ P) (h2 : ∀ q ∈ b, q.1 ≠ P) : ∀ q ∈ e :: b, q.1 ≠ P := List.forall_mem_cons.mpr ⟨h1, h2⟩
theorem tab_mem {P : Addr} {line col : Nat} {qual : Str} {tab : List (Addr × Obj)} (h : TabS P line col qual tab) : ∃ o, (P, o) ∈ tab := by
  cases h with
  | empty => exact ⟨_, .head _⟩
  | full => exact ⟨_, .head _⟩
theorem grown_ne {P P' : Addr} {tab tab' oth : List (Addr × Obj)} {o : Obj} (hs : ∀ q ∈ tab', q ∈ tab ∨ q.1 = P ∨ ∀ r ∈ oth, r.1 < q.1) (h0 : ∀ q ∈ tab, q.1 ≠ P') (hP : P ≠ P') (hm : (P', o) ∈ oth) : ∀ q ∈ tab', q.1 ≠ P' := by
  intro q hq
  rcases hs q hq with h | h | h
  · exact h0 q h
  · rw [h]; exact hP
  · exact Nat.ne_of_gt (h _ hm)
theorem news_D {h₀ h : Heap} {L : Addr} {e1 e2 : Addr × Obj} {tA tD rest : List (Addr × Obj)} (N : News h₀ L h (e1 :: e2 :: (tA ++ (tD ++ rest)))) : News h₀ L h (tD ++ (e1 :: e2 :: (tA ++ rest))) := by
  intro q hq
  refine N q ?_
  simp only [List.mem_append, List.mem_cons] at hq ⊢
  rcases hq with h | h | h | h | h
  · exact .inr (.inr (.inr (.inl h)))
  · exact .inl h
  · exact .inr (.inl h)
  · exact .inr (.inr (.inl h))
  · exact .inr (.inr (.inr (.inr h)))
theorem endP {P : Int → Int → Prop} {rest tA tD led : List (Addr × Obj)} {h₀ h' : Heap} {L D : Addr} {m : Str → Option Value} {s : Shared} {Q : Value → Shared → Prop} {x y : Int} {t u : Tok} {c tk' : Nat}
    (hret : RetP P rest h₀ L m s Q) (F : Fr h₀ L h' m) (N : News h₀ L h' ((D, ({ cls := .type "tuple", data := .seq #[.int x t, .int y u] c } : Obj)) :: led)) (hl : ∀ p ∈ led, p.1 < D) (hA : ∀ q ∈ tA, q ∈ led) (hD : ∀ q ∈ tD, q ∈ led) (hR : ∀ q ∈ rest, q ∈ led)
    (hp : P x y) (hT : TabsOk tA tD) : Q (.ref D) { s with heap := h', toks := tk' } := by
  obtain ⟨oA, mA⟩ := tab_mem hT.a
  obtain ⟨oD, mD⟩ := tab_mem hT.d
  refine hret x y D t u c tA tD h' tk' hp hT F (fun p hp => N p ?_) (fun p hp => hl p (hR p hp)) (hl _ (hA _ mA)) (hl _ (hD _ mD))
  rcases List.mem_cons.mp hp with rfl | hp
  · exact .head _
  · refine .tail _ ?_
    rcases List.mem_append.mp hp with hp | hp
    · exact hA p hp
    · exact (List.mem_append.mp hp).elim (hD p) (hR p)
local macro_rules | `(tactic| k_all) => `(tactic| exact fun q hq9 => Nat.ne_of_lt (ktn_ltOf (And.right (by assumption)) q hq9))
set_option hygiene false in
local macro_rules | `(tactic| walk_at "call builtin:list.append") => `(tactic| ((with_reducible show wpAny _ _ (call (Value.builtin _) [Value.ref _, Value.int _ _]) _ _ _); (refine r_append (by k_asm) (by k_asm) hqi (by omega) (by k_upd) ?_); intro h9 hqj F9 N9; (try dsimp only)))
set_option hygiene false in
local macro_rules | `(tactic| walk_at "call builtin:list.reverse") => `(tactic| ((with_reducible show wpAny _ _ (call (Value.builtin _) [Value.ref _]) _ _ _); (refine r_reverse (by k_asm) (by k_asm) hqi hlR2 (by k_upd) ?_); intro h9 hqj F9 N9; (try dsimp only)))
theorem dmpos_spec (x b : Int) (tx tb : Tok) (hx : 0 ≤ x) (hxb : Builtin.Int.intBits x ≤ 200000) (hb : 0 < b) (hbb : Builtin.Int.intBits b ≤ 64000) :
    SpecQ w p loose mean mg mb 49 [.int x tx, .int b tb] 21 (fun q r => q = x / b ∧ r = x % b) := by
  unfold SpecQ
  k_fill
  intro tA tD dp un gd cn cs aF ccd cl outer A₀ base h₀ L m rest s Q E hT hr30 hr37 hC1 hC2 B F X NW T hk hd hu hret
  k_with_none
  k_with "m_nn" => exact Int.le_of_lt hbt.2.2
  k_with "m_sz" => exact inv_size hinv hb hnv hn64
  k_with "call ref" => (
    (with_reducible show wpAny _ _ (call (Value.ref 35) _) _ _ _)
    (have hbt := bits_top hb hnv)
    (have hn64 : nv ≤ 64000 := by omega)
    (refine specA_use (by k_asm) (by k_asm) (by k_asm) (by k_asm) (by k_asm) (by first | exact rfl | assumption) hx hbt.2.2 hn64 hxb (by kn_code) hT.a (app_ne hT.dA hr30) (by ktr_room) (by ktr_units) ?_)
    intro D8 vs8 c8 k8 tA8 h8 tk8 hI8 hlt8 hk8 hnk8 hT8 hs8 hD8 hD30 F8 N8
    (have hA37 : ∀ q ∈ tA8, q.1 ≠ 37 := by
      obtain ⟨oD, mD⟩ := tab_mem hT.d
      exact grown_ne hs8 hT.aD (by decide) (List.mem_append_left _ mD))
    (have hD37 : 37 < D8 := by
      obtain ⟨oD, mD⟩ := tab_mem hT.d
      exact hD8 _ (List.mem_append_left _ mD))
    (try dsimp only)
    (try k_fold))
  k_with "call ref" => (
    (with_reducible show wpAny _ _ (call (Value.ref 21) _) _ _ _)
    (refine spec2_useR (by k_asm) (by k_asm) (by k_asm) (by k_asm) (by k_asm) (by first | exact rfl | assumption) (div2_spec _ _ _ _ _ _) (inv_pre hinv hb hnv hn64 hd0 hd1 (by assumption) (by assumption)) (by ktr_room) (by ktr_units) ?_)
    intro x9 y9 D9 t9 u9 c9 h9 tk9 hR9 hP9 F9 N9 l9
    obtain ⟨hx9, hy9⟩ := hP9
    (try k_lt l9)
    (try dsimp only)
    (try k_fold))
  k_with "call ref" => (
    (with_reducible show wpAny _ _ (call (Value.ref 42) _) _ _ _)
    (rename News _ _ _ _ => NN)
    (refine specD_use (by k_asm) (by k_asm) (by k_asm) (news_D NN) (by k_asm) (by first | exact rfl | assumption) (List.Mem.head _) (by assumption) hrgR hlR hbt.2.2 hnR (by kn_code) hT.d (cons_ne (by refine neN ?_; (try dsimp only); omega) (cons_ne (Nat.ne_of_gt hD37) (app_ne hA37 hr37))) (by ktr_room) (by ktr_units) ?_)
    intro v9 t9 tD9 h9 tk9 hv9 hT9 hs9 F9 N9
    (have hD30' : ∀ q ∈ tD9, q.1 ≠ 30 := by
      obtain ⟨oA, mA⟩ := tab_mem hT8
      exact grown_ne hs9 hT.dA (by decide) (.tail _ (.tail _ (List.mem_append_left _ mA))))
    (try dsimp only)
    (try k_fold))
  refine wpAny_call ?_
  k_dflt ktr_enter
  k_steps
  (refine rev_loopP (b := b) (n := nv) rfl (by assumption) (by assumption) (by assumption) (by assumption) hI8 rfl hb (fun d hd => digs_range nv.toNat k8 x d hd) ?_ ?_)
  · intro rr tr u wv qvs qns cnt P d t it h tk hinv hqi hd0 hd1 hPl F N
    rw [digs_len] at hPl
    have hql := hinv.len
    (try dsimp only)
    k_steps
    show RevEnd _ _ _ _ _ _ _ _ _ _
    exact turnP_end (by assumption) F9 N9 (by k_mem) (by k_mem) (by k_mem) (by intro _ h; repeat (first | exact h | refine List.Mem.tail _ ?_)) (inv_step hinv hb hnv hn64 hd0 hd1 (by assumption) (by assumption) hx9 hy9) hqj
  · intro rr tr u wv qvs qns cnt h tk hinv hqi F N
    have hlq : qns.length = k8 := by
      have := hinv.len
      rw [List.length_reverse, digs_len] at this
      exact this
    have hlR2 : qns.length ≤ 2 ^ 24 := by omega
    have hlR : qns.reverse.length ≤ 200000 := by rw [List.length_reverse]; omega
    have hrgR : ∀ d ∈ qns.reverse, 0 ≤ d ∧ d < 2 ^ nv.toNat := fun d hd => hinv.rg d (List.mem_reverse.mp hd)
    have hnR : nv * (qns.reverse.length : Int) ≤ 2 ^ 26 := by rw [List.length_reverse, hlq]; exact hnk8
    have hD37n : @LT.lt Nat _ 37 D8 := hD37
    (try dsimp only)
    k_steps
    have hie := inv_end hinv hb hx hlt8
    exact endP hret (by assumption) (by assumption) (by assumption) (fun q h => List.mem_append_right _ (.tail _ (.tail _ (List.mem_append_left _ h)))) (fun q h => List.mem_append_left _ h) (fun q h => List.mem_append_right _ (.tail _ (.tail _ (List.mem_append_right _ h)))) ⟨hv9.trans hie.1, hie.2⟩ ⟨hT8, hT9, hA37, hD30'⟩
end
end Mine
end
section
open PySem PySem.W PyProof.Rows PySem.Calls
set_option maxRecDepth 100000
set_option maxHeartbeats 8000000
namespace Mine
theorem offId72 : True ∧ True := by
  w_top off
  first | (walk1; done) | exact ⟨trivial, trivial⟩
section
variable {w : World} {p : Program} {loose : List Str} {mean : ExcName → Option Value} {mg mb : Str → Option Value}

local macro_rules | `(tactic| k_mem) => `(tactic| assumption)
set_option hygiene false in
local macro_rules | `(tactic| walk_at "unaryOp USub int") => `(tactic| (with_reducible refine r_neg ?_; intro qv hqv))
set_option hygiene false in
local macro_rules | `(tactic| walk_at "unaryOp Invert int") => `(tactic| (with_reducible refine r_inv ?_; intro qv hqv))
/-- rounded down -/
structure FlOk (a b q r : Int) : Prop where
  eq : q * b + r = a
  pos : 0 < b → 0 ≤ r ∧ r < b
  neg : b < 0 → b < r ∧ r ≤ 0
theorem flok_pos {a b q r : Int} (hb : 0 < b) (h : q = a / b ∧ r = a % b) : FlOk a b q r := by
  have hd := Int.mul_ediv_add_emod a b
  rw [← h.1, ← h.2, Int.mul_comm] at hd
  exact ⟨hd, fun _ => ⟨by rw [h.2]; exact Int.emod_nonneg _ (Int.ne_of_gt hb), by rw [h.2]; exact Int.emod_lt_of_pos _ hb⟩, fun h => by omega⟩
theorem flok_inv {a b q r a' q' s r' : Int} (hb : 0 < b) (h : FlOk a' b q r) (ha : a' = Builtin.bitNot a) (hq : q' = Builtin.bitNot q) (hs : s = Builtin.bitNot r) (hr : r' = b + s) : FlOk a b q' r' := by
  unfold Builtin.bitNot at *
  obtain ⟨h1, h2, -⟩ := h
  have := h2 hb
  refine ⟨?_, fun _ => by omega, fun h => by omega⟩
  have e : q' * b = -(q * b) - b := by subst hq; grind
  omega
theorem flok_neg {a b q r a' b' r' : Int} (hb : b < 0) (h : FlOk a' b' q r) (ha : a' = -a) (hb' : b' = -b) (hr : r' = -r) : FlOk a b q r' := by
  obtain ⟨h1, h2, -⟩ := h
  have := h2 (by omega)
  refine ⟨?_, fun h => by omega, fun _ => by omega⟩
  have e : q * b' = -(q * b) := by subst hb'; grind
  omega
theorem flok_unique {a b q r q2 r2 : Int} (h : FlOk a b q r) (h2 : FlOk a b q2 r2) (hb : b ≠ 0) : q = q2 ∧ r = r2 := by
  rcases Int.lt_or_lt_of_ne hb with h0 | h0
  · have e : ∀ {x y : Int}, FlOk a b x y → x = -a / -b ∧ -y = -a % -b := fun {x y} f => div_unique (by omega) (by have := f.eq; have : x * -b = -(x * b) := by grind
                                                                                                                  omega) (by have := f.neg h0; omega) (by have := f.neg h0; omega)
    have a1 := e h
    have a2 := e h2
    exact ⟨by rw [a1.1, a2.1], by have := a1.2; have := a2.2; omega⟩
  · have e : ∀ {x y : Int}, FlOk a b x y → x = a / b ∧ y = a % b := fun {x y} f => div_unique h0 f.eq (f.pos h0).1 (f.pos h0).2
    have a1 := e h
    have a2 := e h2
    exact ⟨by rw [a1.1, a2.1], by rw [a1.2, a2.2]⟩
theorem neg_bits {x y : Int} {m : Nat} (h : y = -x) (hb : Builtin.Int.intBits x ≤ m) : Builtin.Int.intBits y ≤ m := by rw [h]; exact intBits_neg_le hb
theorem specQ_use {f : Addr} {vs : List Value} {sz : Nat} {P : Int → Int → Prop} {tA tD : List (Addr × Obj)} {dp un : Nat} {gd : Option (List Code)} {cn : Str} {cs : Scope} {a : Addr} {ccd : Value} {cl : List (Str × Addr)} {outer : List Env} {A₀ : Around} {base h₀ : Heap} {L : Addr} {m : Str → Option Value} {rest : List (Addr × Obj)} {s : Shared}
    {Q E : Value → Shared → Prop} (B : Below A₀ base outer h₀) (F : Fr h₀ L s.heap m) (X : (Mine.hd.heap_39 w.params).In h₀) (N : News h₀ L s.heap (tA ++ (tD ++ rest))) (T : Top p loose mean mg mb h₀) (hk : cs.kind = .function)
    (S : SpecQ w p loose mean mg mb f vs sz P) (hT : TabsOk tA tD) (h30 : ∀ q ∈ rest, q.1 ≠ 30) (h37 : ∀ q ∈ rest, q.1 ≠ 37) (hC1 : CodeHd base 34 30) (hC2 : CodeHd base 41 37) (hd : dp + sz < recursionLimit) (hu : un + 8 * sz < cLine)
    (h : RetP P rest h₀ L m s Q) : wpAny (model PySem.Challenge.rw_wv0072_01.row.prog w) (ktrTop dp un gd cn cs L a ccd cl outer) (call (.ref f) vs) Q E s :=
  S _ _ _ _ _ _ _ _ _ _ _ _ _ _ _ _ _ _ _ _ hT h30 h37 hC1 hC2 B F X N T hk hd hu h
theorem idm1 (x b : Int) (tx tb : Tok) (hx : 0 ≤ x) (hxb : Builtin.Int.intBits x ≤ 200000) (hb : 0 < b) (hbb : Builtin.Int.intBits b ≤ 64000) :
    SpecQ w p loose mean mg mb 56 [.int x tx, .int b tb] 22 (FlOk x b) := by
  unfold SpecQ
  k_fill
  intro tA tD dp un gd cn cs aF ccd cl outer A₀ base h₀ L m rest s Q E hT hr30 hr37 hC1 hC2 B F X NW T hk hd hu hret
  k_with_none
  k_with "call ref" => (
    (with_reducible show wpAny _ _ (call (Value.ref 49) _) _ _ _)
    (refine specQ_use (by k_asm) (by k_asm) (by k_asm) (by k_asm) (by k_asm) (by first | exact rfl | assumption) (dmpos_spec x b _ _ hx hxb hb hbb) hT hr30 hr37 (by kn_code) (by kn_code) (by ktr_room) (by ktr_units) ?_)
    intro x9 y9 D9 t9 u9 c9 tA9 tD9 h9 tk9 hP9 hT9 F9 N9 l9 l30 l37
    (try dsimp only)
    (try k_fold))
  refine wpAny_call ?_
  k_dflt ktr_enter
  k_steps
  all_goals first
    | (exfalso; omega)
    | exact hret _ _ _ _ _ _ _ _ _ _ (flok_pos hb hP9) hT9 (by assumption) (by assumption) l9 l30 l37
theorem specQ_more {f : Addr} {vs : List Value} {sz sz' : Nat} {P : Int → Int → Prop} (h : SpecQ w p loose mean mg mb f vs sz P) (hs : sz ≤ sz') : SpecQ w p loose mean mg mb f vs sz' P := by
  intro tA tD dp un gd cn cs aF ccd cl outer A₀ base h₀ L m rest s Q E hT h30 h37 hC1 hC2 B F X N T hk hd hu hret
  exact h _ _ _ _ _ _ _ _ _ _ _ _ _ _ _ _ _ _ _ _ hT h30 h37 hC1 hC2 B F X N T hk (by omega) (by omega) hret
theorem led_lt {D D9 : Addr} {o : Obj} {led : List (Addr × Obj)} (h : D9 < D ∧ AllLt D led) : ∀ p ∈ (D9, o) :: led, p.1 < D := List.forall_mem_cons.mpr ⟨h.1, ktn_ltOf h.2⟩
theorem idm2 (x b : Int) (tx tb : Tok) (hxb : Builtin.Int.intBits x ≤ 200000) (hb : 0 < b) (hbb : Builtin.Int.intBits b ≤ 64000) :
    SpecQ w p loose mean mg mb 56 [.int x tx, .int b tb] 23 (FlOk x b) := by
  by_cases hx : 0 ≤ x
  · exact specQ_more (idm1 x b tx tb hx hxb hb hbb) (by decide)
  unfold SpecQ
  k_fill
  intro tA tD dp un gd cn cs aF ccd cl outer A₀ base h₀ L m rest s Q E hT hr30 hr37 hC1 hC2 B F X NW T hk hd hu hret
  k_with_none
  k_with "call ref" => (
    (with_reducible show wpAny _ _ (call (Value.ref 56) _) _ _ _)
    (refine specQ_use (by k_asm) (by k_asm) (by k_asm) (by k_asm) (by k_asm) (by first | exact rfl | assumption) (idm1 qv b _ _ (by rw [hqv]; unfold Builtin.bitNot; omega) (by rw [hqv]; exact intBits_le_of_natAbs (y := x) (by unfold Builtin.bitNot; omega) hxb) hb hbb) hT hr30 hr37 (by kn_code) (by kn_code) (by ktr_room) (by ktr_units) ?_)
    intro x9 y9 D9 t9 u9 c9 tA9 tD9 h9 tk9 hP9 hT9 F9 N9 l9 l30 l37
    (try dsimp only)
    (try k_fold))
  refine wpAny_call ?_
  k_dflt ktr_enter
  k_steps
  all_goals first
    | (exfalso; omega)
    | exact endP hret (by assumption) (by assumption) (led_lt (by assumption)) (fun q h => .tail _ (List.mem_append_left _ h)) (fun q h => .tail _ (List.mem_append_right _ (List.mem_append_left _ h))) (fun q h => .tail _ (List.mem_append_right _ (List.mem_append_right _ h))) (flok_inv hb hP9 (by assumption) (by assumption) (by assumption) (by assumption)) hT9
    | skip
theorem idm3 (x b : Int) (tx tb : Tok) (hxb : Builtin.Int.intBits x ≤ 200000) (hb : b ≠ 0) (hbb : Builtin.Int.intBits b ≤ 64000) :
    SpecQ w p loose mean mg mb 56 [.int x tx, .int b tb] 24 (FlOk x b) := by
  by_cases hb0 : 0 < b
  · exact specQ_more (idm2 x b tx tb hxb hb0 hbb) (by decide)
  have hbn : b < 0 := by omega
  unfold SpecQ
  k_fill
  intro tA tD dp un gd cn cs aF ccd cl outer A₀ base h₀ L m rest s Q E hT hr30 hr37 hC1 hC2 B F X NW T hk hd hu hret
  k_with_none
  k_with "call ref" => (
    (with_reducible show wpAny _ _ (call (Value.ref 56) _) _ _ _)
    (refine specQ_use (by k_asm) (by k_asm) (by k_asm) (by k_asm) (by k_asm) (by first | exact rfl | assumption) (idm2 _ qv _ _ (neg_bits (by assumption) hxb) (by omega) (neg_bits hqv hbb)) hT hr30 hr37 (by kn_code) (by kn_code) (by ktr_room) (by ktr_units) ?_)
    intro x9 y9 D9 t9 u9 c9 tA9 tD9 h9 tk9 hP9 hT9 F9 N9 l9 l30 l37
    (try dsimp only)
    (try k_fold))
  refine wpAny_call ?_
  k_dflt ktr_enter
  k_steps
  all_goals first
    | (exfalso; omega)
    | exact endP hret (by assumption) (by assumption) (led_lt (by assumption)) (fun q h => .tail _ (List.mem_append_left _ h)) (fun q h => .tail _ (List.mem_append_right _ (List.mem_append_left _ h))) (fun q h => .tail _ (List.mem_append_right _ (List.mem_append_right _ h))) (flok_neg hbn hP9 (by assumption) (by assumption) (by assumption)) hT9
    | skip
end
end Mine
end
end
section
open PySem PySem.W PyProof.Rows PySem.Calls PySem.Spec
set_option maxRecDepth 100000
set_option maxHeartbeats 8000000
namespace Mine
section
variable {prog : Program} {w : World} {A₀ A : Around} {s : Shared} {base h₀ : Heap} {L : Addr} {m : Str → Option Value} {env : Env} {news : List (Addr × Obj)} {K : Frag} {p : Program} {loose : List Str} {mean : ExcName → Option Value} {mg mb : Str → Option Value}
    {R : Result → Shared → Prop} {name qual : Str} {params : Arguments} {body : List Stmt} {scope : Scope} {dV kV doc pm cdv ct oc : Value} {an od : Option Addr} {osl : Array (Option Value)} {f : Addr} {args : Args} {binds : List (Str × Value)}
theorem one_mem {b : Addr} (hf : env.frame = some L) (hm : b ∈ [env].filterMap (·.frame)) : b = L := by
  simp [hf] at hm
  exact hm
theorem enterX (B : Below A₀ base [] h₀) (F : Fr h₀ L s.heap m) (N : News h₀ L s.heap news) (hA : A.frames = some [env]) (hf : env.frame = some L) (hke : env.scope.kind = .function) :
    ∃ oL es ep, (hideAll s.heap (news.map (·.1))).get? L = some oL ∧ oL.data = .dict es ep ∧ (∀ h', h'.get? L = some oL → Heap.Ns h' L m) ∧ (∀ (sl : Array (Option Value)) h', h'.get? L = some { oL with slots := sl } → Heap.Ns h' L m) ∧
      h₀.StaysIn (hideAll s.heap (news.map (·.1))) ∧ Below A base [env] (hideAll s.heap (news.map (·.1))) := by
  have nm : ∀ b o, h₀.get? b = some o → b ∉ news.map (·.1) := fun b o e q => by
    obtain ⟨p, hp, rfl⟩ := List.mem_map.mp q
    rw [(N p hp).2.2] at e; cases e
  have st : h₀.StaysIn (hideAll s.heap (news.map (·.1))) := fun b o e => hideAll_get _ (F.keep b o e) (nm b o e)
  obtain ⟨oL, es, ep, hL, hLd, hLk, hLf⟩ := F.ns
  have nL : L ∉ news.map (·.1) := fun q => by
    obtain ⟨p, hp, e⟩ := List.mem_map.mp q
    exact (N p hp).2.1 e
  have hLg := hideAll_get (news.map (·.1)) hL nL
  have hnew : base.get? L = none := by
    cases hq : base.get? L with
    | none => rfl
    | some o => exact absurd (Nat.lt_of_lt_of_le (Heap.lt_size (B.stays L o hq)) F.above) (Nat.lt_irrefl _)
  exact ⟨oL, es, ep, hLg, hLd, fun h' e => ⟨oL, es, ep, e, hLd, hLk, hLf⟩, fun sl h' e => ⟨_, es, ep, e, hLd, hLk, hLf⟩, st, ⟨hA, fun b o e => st b o (B.stays b o e),
    Heap.FunFrames.cons (by rw [hke]; decide) hf ⟨oL, es, ep, hLg, hLd, hLk, hLf⟩ hnew trivial⟩⟩
/-- a def is entered from the lowest frame, which may bear cells; what is raised within may be caught within -/
theorem code_defX (B : Below A₀ base [] h₀) (F : Fr h₀ L s.heap m) (X₀ : K.In h₀) (N : News h₀ L s.heap news) (T : Top p loose mean mg mb h₀) (hA : A.frames = some [env]) (hf : env.frame = some L)
    (ho : K.lookup f = some ⟨oc, od, .func (fnOf name qual params body scope dV kV doc pm an cdv ct), osl⟩) (hcd : codeIn K cdv qual = true) (hroom : A.depth < recursionLimit)
    (hbind : BindsTo s (fnOf name qual params body scope dV kV doc pm an cdv ct) args binds) (hloc : ∀ y ∈ binds, scope.names.lookup y.1 = some .local)
    (h : ∀ g L' h₁, Fr h₀ L g m → Fr g L' h₁ (fun y => binds.reverse.lookup y) → News g L' h₁ news → Below A base [env] g → K.In g → Top p loose mean mg mb g → KtsDicts ([env].filterMap (·.frame)) g →
      wpAny (model prog w) (A.deeper (envOf qual scope L' f cdv)) (execs body (envOf qual scope L' f cdv))
        (fun fl s' => LeaveS0 ([env].filterMap (·.frame)) h₀ L m g R (match fl with | .ret v => v | _ => .none) s')
        (fun e s' => wpAny (model prog w) (A.deeper (envOf qual scope L' f cdv)) (leaving (envOf qual scope L' f cdv) e) (fun _ s'' => R (.error e) s'') (fun e' s'' => R (.error e') s'') s')
        { s with heap := h₁, toks := s.toks + binds.length })
    (hck : env.scope.kind = .function) (hco : scope.isCoroutine = false) (hgen : scope.isGenerator = false) (hk : scope.kind = .function)
    (hcell : ∀ x ∈ scope.names, x.2 ≠ .cell) : codeAny (model prog w) A (.call (.ref f) args) R s := by
  have X := X₀.keeps F.keep
  refine codeAny_call_def (fd := fnOf name qual params body scope dV kV doc pm an cdv ct) (body := body) (binds := binds) hroom (X _ _ ho) rfl (T.nolimit.keeps F.keep) (codeRec_of X hcd) rfl hbind hcell hloc (fun h₁ hns hk₁ => ?_) hco hgen hk
  obtain ⟨oL, es, ep, hLg, hLd, hN, hNs, st, B₂⟩ := enterX (A := A) B F N hA hf hck
  refine wpAny_mono (h _ s.heap.objs.size h₁ ⟨hN _ hLg, st, F.above⟩ ⟨hns, fun b o e => hk₁ b o (of_hideAll _ e), Nat.le_of_eq (hideAll_size _ _)⟩
    (fun p hp => ⟨hk₁ _ _ (N p hp).1, Nat.ne_of_lt (Heap.lt_size (N p hp).1), hideAll_none _ (List.mem_map_of_mem hp)⟩) B₂ (X₀.keeps st) (T.keeps st) (fun b hb => by
      have z := one_mem hf hb
      subst z
      exact ⟨oL, es, ep, hLg, hLd⟩)) (fun fl s' hl => ?_) fun _ _ y => y
  obtain ⟨g', L', m', news', T', F', N', k⟩ := hl
  have nL₀ : h₀.get? L = none := kts_self F
  obtain ⟨sl, hs⟩ := T'.up hLg
  refine k ⟨hNs sl _ (F'.keep _ _ hs), fun b o e => F'.keep b o (T'.other b o (st b o e) (fun q => by
    have z := one_mem hf q
    rw [z, nL₀] at e
    cases e)), F.above⟩ fun p hp => ⟨(N' p hp).1, fun q => ?_, ?_⟩
  · have := (N' p hp).2.2; rw [q, hs] at this; cases this
  · cases q : h₀.get? p.1 with
    | none => rfl
    | some o =>
      obtain ⟨sl', hs'⟩ := T'.up (st _ _ q)
      have := (N' p hp).2.2
      rw [hs'] at this
      cases this
end
end Mine
end
section
open PySem PySem.W PyProof.Rows PySem.Calls
set_option maxRecDepth 100000
set_option maxHeartbeats 8000000
namespace Mine
theorem offRf72 : True ∧ True := by
  w_top off
  first | (walk1; done) | exact ⟨trivial, trivial⟩
section
variable {w : World} {p : Program} {loose : List Str} {mean : ExcName → Option Value} {mg mb : Str → Option Value}
local macro_rules | `(tactic| walk_at "call ref") => `(tactic| ((with_reducible show wpAny _ _ (call (Value.ref 56) _) _ _ _); k_dflt (refine wpAny_call ?_; (refine' code_def ?k1 ?k2 ?k3 ?k4 ?k5 ?kA ?kF ?kK ?k6 ?k7 ?k8 ?k9 ?kB ?_ ?c2 ?c3 ?c4 ?c5; (case kA => exact rfl); (case kF => exact rfl); (case kK => exact rfl); (case k1 => k_asm); (case k2 => k_asm); (case k3 => k_asm); (case k4 => k_asm); (case k5 => k_asm); (case k6 => k_is); (case k7 => k_is); (case k8 => ktr_room); (case k9 => exact BindsTo.of_eq rfl); (case c5 => decide); (case kB => exact locs rfl); (case c2 => exact rfl); (case c3 => exact rfl); (case c4 => exact rfl); k_whole; intro g' L' h' FG' F' N' B' X' T'; (try dsimp only); (try k_lift B'); (try k_fold)))))
local macro_rules | `(tactic| walk_at "exec Raise some none") => `(tactic| (k_here; (with_reducible show wpAny _ _ (exec (Stmt.Raise (some (Expr.Name _ _)) none _) _) _ _ _); (with_reducible rename Fr _ _ _ _ => kF); k_dflt ((refine' Raise_classB ?hh excClass_ZeroDivisionError ?hs ?hx ?_; (case hh => rfl); (case hs => (rw [isSubtype_type]; kernel_rfl)); (case hx => (refine' name_B kF ?k1 ?k2 ?k3 ?k4 ?k5 ?_; (case k1 => k_asm); (case k2 => k_asm); (case k3 => k_is); (case k4 => boot_by_name); (case k5 => decide); exact ⟨rfl, rfl⟩)); intro h8 e8 hx8))))
def RetB (h₀ : Heap) (L : Addr) (m : Str → Option Value) (news : List (Addr × Obj)) (s : Shared) (Q : Value → Shared → Prop) : Prop :=
  ∀ (h' : Heap) (tk' : Nat), Fr h₀ L h' m → News h₀ L h' news → Q (.bool true) { s with heap := h', toks := tk' }
def SpecR (w : World) (p : Program) (loose : List Str) (mean : ExcName → Option Value) (mg mb : Str → Option Value) : Prop :=
  ∀ (x : Int) (tx : Tok) (dp un : Nat) (gd : Option (List Code)) (cn : Str) (cs : Scope) (a : Addr) (ccd : Value) (cl : List (Str × Addr)) (A₀ : Around) (h₀ : Heap) (L : Addr) (m : Str → Option Value) (news : List (Addr × Obj)) (s : Shared)
    (Q E : Value → Shared → Prop),
    Below A₀ h₀ [] h₀ → Fr h₀ L s.heap m → (Mine.hd.heap_39 w.params).In h₀ → News h₀ L s.heap news → Top p loose mean mg mb h₀ → cs.kind = .function → dp + 10 < recursionLimit → un + 8 * 10 < cLine →
    RetB h₀ L m news s Q →
    wpAny (model PySem.Challenge.rw_wv0072_01.row.prog w) (ktrTop dp un gd cn cs L a ccd cl []) (call (.ref 70) [.int x tx]) Q E s
theorem specR : SpecR w p loose mean mg mb := by
  unfold SpecR
  k_fill
  intro x tx dp un gd cn cs aF ccd cl A₀ h₀ L m news s Q E B F X NW T hk hd hu hret
  k_with_none
  refine wpAny_call ?_
  k_dflt (refine' code_defX ?k1 ?k2 ?k3 ?k4 ?k5 ?kA ?kF ?k6 ?k7 ?k8 ?k9 ?kB ?_ ?cK ?c2 ?c3 ?c4 ?c5)
  case kA => exact rfl
  case kF => exact rfl
  case cK => assumption
  case k1 => k_asm
  case k2 => k_asm
  case k3 => k_asm
  case k4 => k_asm
  case k5 => k_asm
  case k6 => k_is
  case k7 => k_is
  case k8 => ktr_room
  case k9 => exact BindsTo.of_eq rfl
  case c5 => decide
  case kB => exact locs rfl
  case c2 => exact rfl
  case c3 => exact rfl
  case c4 => exact rfl
  k_whole
  intro g' L' h' FG' F' N' B' X' T' D'
  (try dsimp only)
  (try k_lift B')
  (try k_fold)
  k_steps
  all_goals exact hret _ _ (by assumption) (by assumption)
end
end Mine
end
section
open PySem PySem.W PyProof.Rows PySem.Calls
set_option maxRecDepth 100000
namespace Mine
structure LaidOk (x : Int) : Prop where
  lo : 0 ≤ x
  hi : x < 2 ^ 53964
structure BaseL (d q r : Int) : Prop where
  d0 : 0 < d
  dB : d < 2 ^ 53965
  q0 : 0 ≤ q
  qB : q < 2 ^ 53964
  r0 : 0 ≤ r
  r1 : r < d
theorem pos_d {x d : Int} (h : d = 1 + x) (hx : LaidOk x) : 0 < d := by have := hx.lo; omega
theorem p2split (k : Nat) : (2 : Int) ^ (k + 1) = 2 ^ k + 2 ^ k := by rw [Int.pow_succ]; omega
theorem d_lt {x d : Int} (h : d = 1 + x) (hx : LaidOk x) : d < 2 ^ 53965 := by
  have h1 := hx.hi
  have h2 : (2 : Int) ^ 53965 = 2 ^ 53964 + 2 ^ 53964 := p2split 53964
  have h3 : (1 : Int) ≤ 2 ^ 53964 := p2pos 53964
  rw [h2, h]
  generalize (2 : Int) ^ 53964 = P at *
  omega
theorem neg_lt {x : Int} {k : Nat} (h : 0 ≤ x) : -(2 ^ k) < x := by have := p2pos k; omega
theorem mulok1 {x d q : Int} (h : d = 1 + x) (hx : LaidOk x) (hq : LaidOk q) : IntMulOk q d :=
  IntMulOk.of_le (m := 53964) (n := 53965) (bits_le (neg_lt hq.lo) hq.hi) (bits_le (neg_lt (Int.le_of_lt (pos_d h hx))) (d_lt h hx)) (by decide)
theorem base_mk {p q d x r z : Int} (_ : p = q * d) (h : d = 1 + x) (hx : LaidOk x) (hq : LaidOk q) (_ : r = z % d) (r0 : 0 ≤ r) (r1 : r < d) : BaseL d q r :=
  ⟨pos_d h hx, d_lt h hx, hq.lo, hq.hi, r0, r1⟩
theorem w_bits {p q d r W : Int} (B : BaseL d q r) (hp : p = q * d) (hW : W = p + r) : 0 ≤ W ∧ W < 2 ^ 107930 := by
  have h1 : q * d < 2 ^ 53964 * 2 ^ 53965 := Int.lt_of_le_of_lt (Int.mul_le_mul_of_nonneg_left (Int.le_of_lt B.dB) B.q0) (Int.mul_lt_mul_of_pos_right B.qB (p2pos 53965))
  have h0 : 0 ≤ q * d := Int.mul_nonneg B.q0 (Int.le_of_lt B.d0)
  have e1 : (2 : Int) ^ 53964 * 2 ^ 53965 = 2 ^ 107929 := (Int.pow_add 2 53964 53965).symm
  have e2 : (2 : Int) ^ 107930 = 2 ^ 107929 + 2 ^ 107929 := p2split 107929
  have e3 : (2 : Int) ^ 53965 ≤ 2 ^ 107929 := p2mono (by decide)
  have a1 := B.r0; have a2 := B.r1; have a3 := B.dB
  rw [e1] at h1
  rw [e2, hW, hp]
  generalize (2 : Int) ^ 107929 = P at *
  generalize (2 : Int) ^ 53965 = R at *
  generalize q * d = M at *
  constructor <;> omega
theorem wb1 {p q d r W : Int} (B : BaseL d q r) (hp : p = q * d) (hW : W = p + r) : Builtin.Int.intBits W ≤ 200000 := by
  have h := w_bits B hp hW
  exact Nat.le_trans (bits_le (neg_lt h.1) h.2) (by decide)
theorem wb2 {p q d r W N : Int} (B : BaseL d q r) (hN : N = 0 - W) (hp : p = q * d) (hW : W = p + r) : Builtin.Int.intBits N ≤ 200000 :=
  neg_bits (x := W) (by omega) (wb1 B hp hW)
theorem db1 {q d r : Int} (B : BaseL d q r) : Builtin.Int.intBits d ≤ 64000 :=
  Nat.le_trans (bits_le (neg_lt (Int.le_of_lt B.d0)) B.dB) (by decide)
theorem db2 {q d r e : Int} (B : BaseL d q r) (he : e = 0 - d) : Builtin.Int.intBits e ≤ 64000 :=
  neg_bits (x := d) (by omega) (db1 B)
theorem dn1 {q d r : Int} (B : BaseL d q r) : d ≠ 0 := Int.ne_of_gt B.d0
theorem dn2 {q d r e : Int} (B : BaseL d q r) (he : e = 0 - d) : e ≠ 0 := by have := B.d0; omega
-- the expected pairs
theorem fl_a {p q d r W x y : Int} (B : BaseL d q r) (hf : FlOk W d x y) (hp : p = q * d) (hW : W = p + r) : x = q ∧ y = r :=
  flok_unique hf ⟨by omega, fun _ => ⟨B.r0, B.r1⟩, fun h => by have := B.d0; omega⟩ (dn1 B)
theorem fl_b0 {p q d r W N e x y : Int} (B : BaseL d q r) (hf : FlOk N d x y) (hN : N = 0 - W) (hp : p = q * d) (hW : W = p + r) (h0 : r = 0) (he : e = 0 - q) : x = e ∧ y = 0 :=
  flok_unique hf ⟨by have : e * d = 0 - q * d := by rw [he]; grind
                     omega, fun _ => ⟨Int.le_refl _, B.d0⟩, fun h => by have := B.d0; omega⟩ (dn1 B)
theorem fl_b1 {p q d r W N e e2 m x y : Int} (B : BaseL d q r) (hf : FlOk N d x y) (hN : N = 0 - W) (hp : p = q * d) (hW : W = p + r) (h0 : ¬ r = 0) (he : e = 0 - q) (he2 : e2 = e - 1) (hm : m = d - r) : x = e2 ∧ y = m :=
  flok_unique hf ⟨by have : e2 * d = 0 - q * d - d := by rw [he2, he]; grind
                     omega, fun _ => ⟨by have := B.r1; omega, by have := B.r0; omega⟩, fun h => by have := B.d0; omega⟩ (dn1 B)
theorem fl_c {p q d r W N e z x y : Int} (B : BaseL d q r) (hf : FlOk N e x y) (hN : N = 0 - W) (he : e = 0 - d) (hp : p = q * d) (hW : W = p + r) (hz : z = 0 - r) : x = q ∧ y = z :=
  flok_unique hf ⟨by have : q * e = 0 - q * d := by rw [he]; grind
                     omega, fun h => by have := B.d0; omega, fun _ => ⟨by have := B.r1; omega, by have := B.r0; omega⟩⟩ (dn2 B he)
theorem fl_d0 {p q d r W e f u x y : Int} (B : BaseL d q r) (hf : FlOk W e x y) (he : e = 0 - d) (hp : p = q * d) (hW : W = p + r) (h0 : r = 0) (hff : f = 0 - q) (hu : u = 0 - 0) : x = f ∧ y = u :=
  flok_unique hf ⟨by have : f * e = q * d := by rw [he, hff]; grind
                     omega, fun h => by have := B.d0; omega, fun h => ⟨by omega, by omega⟩⟩ (dn2 B he)
theorem fl_d1 {p q d r W e f f2 m u x y : Int} (B : BaseL d q r) (hf : FlOk W e x y) (he : e = 0 - d) (hp : p = q * d) (hW : W = p + r) (h0 : ¬ r = 0) (hff : f = 0 - q) (hf2 : f2 = f - 1) (hm : m = d - r) (hu : u = 0 - m) : x = f2 ∧ y = u :=
  flok_unique hf ⟨by have : f2 * e = q * d + d := by rw [he, hf2, hff]; grind
                     omega, fun h => by have := B.d0; omega, fun h => ⟨by have := B.r0; omega, by have := B.r1; omega⟩⟩ (dn2 B he)
-- figures
structure PartOk (n x : Int) : Prop where
  lo : 0 ≤ x
  hi : x < 2 ^ n.toNat
theorem part_a {n q sh o x : Int} (hs : sh = 1 * 2 ^ n.toNat) (ho : o = sh - 1) (hx : x = Builtin.bitAnd q o) : PartOk n x := by
  have hp := p2pos n.toNat
  rw [ho, hs, Int.one_mul, and_mask] at hx
  exact ⟨by rw [hx]; exact Int.emod_nonneg _ (by omega), by rw [hx]; exact Int.emod_lt_of_pos _ hp⟩
theorem part_b {n sh o : Int} (hs : sh = 1 * 2 ^ n.toNat) (ho : o = sh - 1) : PartOk n o := by
  have hp := p2pos n.toNat
  exact ⟨by omega, by omega⟩
theorem part_c {n sh o x : Int} (hs : sh = 1 * 2 ^ n.toNat) (ho : o = sh - 1) (hx : x = o / 3) : PartOk n x := by
  have hp := p2pos n.toNat
  exact ⟨by omega, by omega⟩
theorem n_le {d q r n : Int} (B : BaseL d q r) (hn : n = (Builtin.Int.intBits d : Int)) : n ≤ 53965 := by
  have h := bits_le (neg_lt (Int.le_of_lt B.d0)) B.dB
  omega
theorem n_pos {d q r n : Int} (B : BaseL d q r) (hn : n = (Builtin.Int.intBits d : Int)) : 0 ≤ n := by omega
theorem n_sz {d q r n : Int} (B : BaseL d q r) (hn : n = (Builtin.Int.intBits d : Int)) : (Builtin.Int.intBits 1 : Int) + n ≤ 2 ^ 27 := by
  have h := n_le B hn
  have h1 : Builtin.Int.intBits 1 ≤ 1 := bits_le (by decide) (by decide)
  omega
theorem mulok2 {d q r n x : Int} (B : BaseL d q r) (hn : n = (Builtin.Int.intBits d : Int)) (hx : PartOk n x) : IntMulOk x d := by
  have h := n_le B hn
  exact IntMulOk.of_le (m := n.toNat) (n := 53965) (bits_le (neg_lt hx.lo) hx.hi) (bits_le (neg_lt (Int.le_of_lt B.d0)) B.dB) (by omega)
theorem a_rng {d q r x p a : Int} {P : Int} (B : BaseL d q r) (x0 : 0 ≤ x) (x1 : x < P) (hp : p = x * d) (ha : a = p + r) : 0 ≤ a ∧ a < d * P := by
  have h0 : 0 ≤ x * d := Int.mul_nonneg x0 (Int.le_of_lt B.d0)
  have h1 : x * d + d ≤ d * P := by
    have : (x + 1) * d ≤ P * d := Int.mul_le_mul_of_nonneg_right (by omega) (Int.le_of_lt B.d0)
    rw [Int.add_mul, Int.one_mul, Int.mul_comm P d] at this
    exact this
  have := B.r0; have := B.r1
  exact ⟨by omega, by omega⟩
theorem pre_2 {d q r n x p a : Int} (B : BaseL d q r) (hn : n = (Builtin.Int.intBits d : Int)) (hx : PartOk n x) (hp : p = x * d) (ha : a = p + r) : Pre2 64000 a d n := by
  have hb := bits_top B.d0 hn
  have h := a_rng B hx.lo hx.hi hp ha
  have h2 := n_le B hn
  exact ⟨by omega, by omega, B.d0, hb.1, hb.2.1, h.1, h.2⟩
theorem pair_2 {d q r x p a u v : Int} (B : BaseL d q r) (hp : p = x * d) (ha : a = p + r) (h : u = a / d ∧ v = a % d) : u = x ∧ v = r := by
  have := div_unique B.d0 (by omega : x * d + r = a) B.r0 B.r1
  exact ⟨by rw [h.1, this.1], by rw [h.2, this.2]⟩
theorem half_nn {n h : Int} (hn : 0 ≤ n) (hh : h = n / 2) : 0 ≤ h := by omega
theorem half_sz {d q r n h : Int} (B : BaseL d q r) (hn : n = (Builtin.Int.intBits d : Int)) (hh : h = n / 2) : (Builtin.Int.intBits 1 : Int) + h ≤ 2 ^ 27 := by
  have := n_sz B hn
  omega
theorem half_le {d q r n h x : Int} (hh : h = n / 2) (hn : n = (Builtin.Int.intBits d : Int)) (B : BaseL d q r) (hx : PartOk h x) : PartOk n x :=
  ⟨hx.lo, Int.lt_of_lt_of_le hx.hi (p2mono (by omega))⟩
theorem fd_parts {a k hi l mk sh : Int} (hk : 0 ≤ k) (hhi : hi = a.fdiv (2 ^ k.toNat)) (hl : l = Builtin.bitAnd a mk) (hmk : mk = sh - 1) (hsh : sh = 1 * 2 ^ k.toNat) :
    hi = a / 2 ^ k.toNat ∧ l = a % 2 ^ k.toNat ∧ a = hi * 2 ^ k.toNat + l ∧ 0 ≤ l ∧ l < 2 ^ k.toNat := by
  have hp := p2pos k.toNat
  have e := Int.mul_ediv_add_emod a (2 ^ k.toNat)
  rw [fdiv2] at hhi
  rw [hmk, hsh, Int.one_mul, and_mask] at hl
  rw [← hhi, ← hl, Int.mul_comm] at e
  exact ⟨hhi, hl, e.symm, by rw [hl]; exact Int.emod_nonneg _ (by omega), by rw [hl]; exact Int.emod_lt_of_pos _ hp⟩
theorem pre_3 {d q r n h m x p a hi l mk sh u lo mk2 sh2 : Int} (B : BaseL d q r) (hn : n = (Builtin.Int.intBits d : Int)) (hm : m = n % 2) (hm0 : m = 0) (hh : h = n / 2) (hx : PartOk h x) (hp : p = x * d) (ha : a = p + r)
    (hhi : hi = a.fdiv (2 ^ h.toNat)) (hl : l = Builtin.bitAnd a mk) (hmk : mk = sh - 1) (hsh : sh = 1 * 2 ^ h.toNat)
    (hu : u = d.fdiv (2 ^ h.toNat)) (hlo : lo = Builtin.bitAnd d mk2) (hmk2 : mk2 = sh2 - 1) (hsh2 : sh2 = 1 * 2 ^ h.toNat) : Pre3 64000 hi l d u lo h := by
  have hle := n_le B hn
  have hn0 := n_pos B hn
  have h0 : 0 ≤ h := by omega
  have b := bits_top B.d0 hn
  have e2 : n.toNat = h.toNat + h.toNat := by omega
  rw [e2, Int.pow_add] at b
  have f1 := fd_parts h0 hhi hl hmk hsh
  have f2 := fd_parts h0 hu hlo hmk2 hsh2
  have g := a_rng B hx.lo hx.hi hp ha
  have hp0 := p2pos h.toNat
  refine ⟨h0, by omega, B.d0, f2.2.2.1, ?_, ?_, ?_, f2.2.2.2.1, f2.2.2.2.2, ?_, f1.2.2.2.1, f1.2.2.2.2, ?_⟩
  · rw [f2.1]; exact Int.ediv_nonneg (Int.le_of_lt B.d0) (Int.le_of_lt hp0)
  · rw [f2.1]; exact (Int.ediv_lt_iff_lt_mul hp0).mpr b.1
  · rw [f2.1]; exact top_half b.1 b.2.1 B.d0
  · rw [f1.1]; exact Int.ediv_nonneg g.1 (Int.le_of_lt hp0)
  · rw [← f1.2.2.1]; exact g.2
theorem pair_3 {d q r h x p a hi l mk sh u v : Int} (B : BaseL d q r) (hh : 0 ≤ h) (hp : p = x * d) (ha : a = p + r) (hhi : hi = a.fdiv (2 ^ h.toNat)) (hl : l = Builtin.bitAnd a mk) (hmk : mk = sh - 1) (hsh : sh = 1 * 2 ^ h.toNat)
    (hf : u = (hi * 2 ^ h.toNat + l) / d ∧ v = (hi * 2 ^ h.toNat + l) % d) : u = x ∧ v = r := by
  have f1 := fd_parts hh hhi hl hmk hsh
  rw [← f1.2.2.1] at hf
  exact pair_2 B hp ha hf
theorem half_nn' {d q r n h : Int} (B : BaseL d q r) (hn : n = (Builtin.Int.intBits d : Int)) (hh : h = n / 2) : 0 ≤ h := by have := n_pos B hn; omega
theorem pre_2' {d q r n x p a : Int} (ha : a = p + r) (hp : p = x * d) (B : BaseL d q r) (hn : n = (Builtin.Int.intBits d : Int)) (hx : PartOk n x) : Pre2 64000 a d n := pre_2 B hn hx hp ha
theorem pair_2' {d q r x p a u v : Int} (h : u = a / d ∧ v = a % d) (ha : a = p + r) (hp : p = x * d) (B : BaseL d q r) : u = x ∧ v = r := pair_2 B hp ha h
theorem pre_3' {d q r n h m x p a hi l mk sh u lo mk2 sh2 : Int} (hhi : hi = a.fdiv (2 ^ h.toNat)) (ha : a = p + r) (hp : p = x * d) (B : BaseL d q r) (hh : h = n / 2) (hn : n = (Builtin.Int.intBits d : Int)) (hm : m = n % 2) (hm0 : m = 0)
    (hl : l = Builtin.bitAnd a mk) (hmk : mk = sh - 1) (hsh : sh = 1 * 2 ^ h.toNat)
    (hu : u = d.fdiv (2 ^ h.toNat)) (hlo : lo = Builtin.bitAnd d mk2) (hmk2 : mk2 = sh2 - 1) (hsh2 : sh2 = 1 * 2 ^ h.toNat) (hx : PartOk h x) : Pre3 64000 hi l d u lo h :=
  pre_3 B hn hm hm0 hh hx hp ha hhi hl hmk hsh hu hlo hmk2 hsh2
theorem pair_3' {d q r n h x p a hi l mk sh u v : Int} (hf : u = (hi * 2 ^ h.toNat + l) / d ∧ v = (hi * 2 ^ h.toNat + l) % d) (hhi : hi = a.fdiv (2 ^ h.toNat)) (ha : a = p + r) (hp : p = x * d) (B : BaseL d q r) (hh : h = n / 2) (hn : n = (Builtin.Int.intBits d : Int))
    (hl : l = Builtin.bitAnd a mk) (hmk : mk = sh - 1) (hsh : sh = 1 * 2 ^ h.toNat) : u = x ∧ v = r := pair_3 B (half_nn' B hn hh) hp ha hhi hl hmk hsh hf
end Mine
end
section
open PySem PySem.W PyProof.Rows PySem.Calls
set_option maxRecDepth 100000
namespace Mine
section
variable {w : World} {p : Program} {loose : List Str} {mean : ExcName → Option Value} {mg mb : Str → Option Value}
theorem wp_deepC {M : Model} {cn : Str} {cs : Scope} {L a : Addr} {cd : Value} {f : Addr} {vs : List Value} {Q : Value → Shared → Prop} {E : Value → Shared → Prop} {s : Shared}
   (h : wpAny M (ktrTop 302 7 (some []) cn cs L a cd (cellsFrom (L + 1) cs.names []) []) (call (.ref f) vs) Q E s) : wpAny M (callerA.deeper (envOfC cn cs L a cd)) (call (.ref f) vs) Q E s := h
theorem laid_use {ys : List Value} {ns : List Int} {l : Addr} {dp un : Nat} {gd : Option (List Code)} {cn : Str} {cs : Scope} {a : Addr} {ccd : Value} {cl : List (Str × Addr)} {outer : List Env} {A₀ : Around} {base h₀ : Heap} {L : Addr} {m : Str → Option Value} {news : List (Addr × Obj)} {s : Shared}
    {Q E : Value → Shared → Prop} (B : Below A₀ base outer h₀) (F : Fr h₀ L s.heap m) (X : (Mine.hd.heap_39 w.params).In h₀) (N : News h₀ L s.heap ((l, LCg.lst ys) :: news)) (T : Top p loose mean mg mb h₀) (hk : cs.kind = .function) (hI : IntsAre ys ns) (hl : ns.length ≤ 36) (hd : dp + 1 < recursionLimit) (hu : un + 8 < cLine)
    (h : ∀ (x : Int) (t : Tok) (h' : Heap) (tk' : Nat), LaidOk x → Fr h₀ L h' m → News h₀ L h' news → Q (.int x t) { s with heap := h', toks := tk' }) :
    wpAny (model PySem.Challenge.rw_wv0072_01.row.prog w) (ktrTop dp un gd cn cs L a ccd cl outer) (call (.ref 63) [.ref l]) Q E s :=
  laid_spec _ _ _ _ _ _ _ _ _ _ _ _ _ _ _ _ _ _ _ _ _ hI hl B F X N T hk hd hu (fun x t h' tk' hx F' N' => h x t h' tk' ⟨hx.1, Int.lt_of_lt_of_le hx.2 (p2mono (by omega))⟩ F' (fun q hq => N' q (.tail _ hq)))
theorem len36 {ys : List Value} {n : Nat} {ns ts : List Int} (h1 : ys.length ≤ ((ts.length : Int) - 0).toNat) (h2 : ys.length = ns.length) (h3 : ts.length = min 36 n) : ns.length ≤ 36 := by omega
theorem idxA {k : Int} {l : List Int} (h : k < 0 + (((l.length : Int) - 0).toNat : Int)) : k < (l.length : Int) := by omega
theorem idxB {k : Int} {l : List Int} {n : Nat} (h : k < 0 + (((l.length : Int) - 0).toNat : Int)) (h3 : l.length = min 36 n) : k < 2 ^ 63 := by omega
theorem part_a' {n q sh o x : Int} (hx : x = Builtin.bitAnd q o) (ho : o = sh - 1) (hs : sh = 1 * 2 ^ n.toNat) : PartOk n x := part_a hs ho hx
theorem part_b' {n sh o : Int} (ho : o = sh - 1) (hs : sh = 1 * 2 ^ n.toNat) : PartOk n o := part_b hs ho
theorem part_c' {n sh o x : Int} (hx : x = o / 3) (ho : o = sh - 1) (hs : sh = 1 * 2 ^ n.toNat) : PartOk n x := part_c hs ho hx
theorem tab_ps {P : Addr} {line col : Nat} {qual : Str} {tab : List (Addr × Obj)} (h : TabS P line col qual tab) : ∃ ps, (P, tabObj ps) ∈ tab := by
  cases h with
  | empty => exact ⟨_, .head _⟩
  | full => exact ⟨_, .head _⟩
theorem tabs0 : TabsOk [(30, tabObj #[])] [(37, tabObj #[])] := ⟨.empty, .empty, by intro q hq; cases List.mem_singleton.mp hq; decide, by intro q hq; cases List.mem_singleton.mp hq; decide⟩
theorem news0 {h₀ hp : Heap} {L : Addr} {dn : Addr × Obj} {big : List (Addr × Obj)} (N : News h₀ L hp (dn :: big)) (h30 : (30, tabObj #[]) ∈ big) (h37 : (37, tabObj #[]) ∈ big) : News h₀ L hp ([(30, tabObj #[])] ++ ([(37, tabObj #[])] ++ [dn])) := by
  intro q hq
  simp only [List.cons_append, List.nil_append, List.mem_cons, List.not_mem_nil, or_false] at hq
  rcases hq with rfl | rfl | rfl
  · exact N _ (.tail _ h30)
  · exact N _ (.tail _ h37)
  · exact N _ (.head _)
theorem news1 {h₀ hp : Heap} {L : Addr} {e1 dn a b : Addr × Obj} {tA tD : List (Addr × Obj)} (N : News h₀ L hp (e1 :: dn :: a :: b :: (tA ++ tD))) : News h₀ L hp (tA ++ (tD ++ [dn])) := by
  intro q hq
  rcases List.mem_append.mp hq with h | h
  · exact N _ (.tail _ (.tail _ (.tail _ (.tail _ (List.mem_append_left _ h)))))
  · rcases List.mem_append.mp h with h | h
    · exact N _ (.tail _ (.tail _ (.tail _ (.tail _ (List.mem_append_right _ h)))))
    · cases List.mem_singleton.mp h; exact N _ (.tail _ (.head _))
theorem news2 {h₀ hp : Heap} {L : Addr} {e1 e2 dn a b : Addr × Obj} {tA tD : List (Addr × Obj)} (N : News h₀ L hp (e1 :: e2 :: dn :: a :: b :: (tA ++ tD))) : News h₀ L hp (tA ++ (tD ++ [dn])) := news1 (e1 := e2) (fun q hq => N q (.tail _ hq))
theorem news3 {h₀ hp : Heap} {L : Addr} {e1 e2 dn a b : Addr × Obj} {tA tD : List (Addr × Obj)} (N : News h₀ L hp (e1 :: e2 :: dn :: a :: b :: (tA ++ tD))) : News h₀ L hp [a, b] := by
  intro q hq
  rcases List.mem_cons.mp hq with rfl | hq
  · exact N _ (.tail _ (.tail _ (.tail _ (.head _))))
  · cases List.mem_singleton.mp hq; exact N _ (.tail _ (.tail _ (.tail _ (.tail _ (.head _)))))
theorem dm_use {x b : Int} {tx tb : Tok} {Dn : Addr} {o : Obj} {tA tD : List (Addr × Obj)} {dp un : Nat} {gd : Option (List Code)} {cn : Str} {cs : Scope} {a : Addr} {ccd : Value} {cl : List (Str × Addr)} {outer : List Env} {A₀ : Around} {base h₀ : Heap} {L : Addr} {m : Str → Option Value} {s : Shared}
    {Q E : Value → Shared → Prop} (B : Below A₀ base outer h₀) (F : Fr h₀ L s.heap m) (X : (Mine.hd.heap_39 w.params).In h₀) (N : News h₀ L s.heap (tA ++ (tD ++ [(Dn, o)]))) (T : Top p loose mean mg mb h₀) (hk : cs.kind = .function)
    (hT : TabsOk tA tD) (hDn : 37 < Dn) (hC1 : CodeHd base 34 30) (hC2 : CodeHd base 41 37)
    (hxb : Builtin.Int.intBits x ≤ 200000) (hb : b ≠ 0) (hbb : Builtin.Int.intBits b ≤ 64000) (hd : dp + 24 < recursionLimit) (hu : un + 8 * 24 < cLine)
    (h : ∀ (x' y' : Int) (D : Addr) (t u : Tok) (c : Nat) (psA psD : Array Value) (tA' tD' : List (Addr × Obj)) (h' : Heap) (tk' : Nat), FlOk x b x' y' → TabsOk tA' tD' → Fr h₀ L h' m →
      News h₀ L h' ((D, ({ cls := .type "tuple", data := .seq #[.int x' t, .int y' u] c } : Obj)) :: (Dn, o) :: (30, tabObj psA) :: (37, tabObj psD) :: (tA' ++ tD')) → Dn < D → Q (.ref D) { s with heap := h', toks := tk' }) :
    wpAny (model PySem.Challenge.rw_wv0072_01.row.prog w) (ktrTop dp un gd cn cs L a ccd cl outer) (call (.ref 56) [.int x tx, .int b tb]) Q E s := by
  refine specQ_use B F X N T hk (idm3 x b tx tb hxb hb hbb) hT (cons_ne (Nat.ne_of_gt (Nat.lt_trans (by decide) hDn)) (fun _ hq => absurd hq List.not_mem_nil)) (cons_ne (Nat.ne_of_gt hDn) (fun _ hq => absurd hq List.not_mem_nil)) hC1 hC2 hd hu ?_
  intro x' y' D t u c tA' tD' h' tk' hP hT' F' N' hlt h30 h37
  obtain ⟨psA, mA⟩ := tab_ps hT'.a
  obtain ⟨psD, mD⟩ := tab_ps hT'.d
  refine h x' y' D t u c psA psD tA' tD' h' tk' hP hT' F' (fun q hq => ?_) (hlt _ (.head _))
  rcases List.mem_cons.mp hq with rfl | hq
  · exact N' _ (.head _)
  rcases List.mem_cons.mp hq with rfl | hq
  · exact N' _ (.tail _ (List.mem_append_right _ (List.mem_append_right _ (.head _))))
  rcases List.mem_cons.mp hq with rfl | hq
  · exact N' _ (.tail _ (List.mem_append_left _ mA))
  rcases List.mem_cons.mp hq with rfl | hq
  · exact N' _ (.tail _ (List.mem_append_right _ (List.mem_append_left _ mD)))
  rcases List.mem_append.mp hq with hq | hq
  · exact N' _ (.tail _ (List.mem_append_left _ hq))
  · exact N' _ (.tail _ (List.mem_append_right _ (List.mem_append_left _ hq)))
theorem ref_use {x : Int} {tx : Tok} {dp un : Nat} {gd : Option (List Code)} {cn : Str} {cs : Scope} {a : Addr} {ccd : Value} {cl : List (Str × Addr)} {A₀ : Around} {h₀ : Heap} {L : Addr} {m : Str → Option Value} {news : List (Addr × Obj)} {s : Shared}
    {Q E : Value → Shared → Prop} (B : Below A₀ h₀ [] h₀) (F : Fr h₀ L s.heap m) (X : (Mine.hd.heap_39 w.params).In h₀) (N : News h₀ L s.heap news) (T : Top p loose mean mg mb h₀) (hk : cs.kind = .function) (hd : dp + 10 < recursionLimit) (hu : un + 8 * 10 < cLine)
    (h : ∀ (h' : Heap) (tk' : Nat), Fr h₀ L h' m → News h₀ L h' news → Q (.bool true) { s with heap := h', toks := tk' }) : wpAny (model PySem.Challenge.rw_wv0072_01.row.prog w) (ktrTop dp un gd cn cs L a ccd cl []) (call (.ref 70) [.int x tx]) Q E s :=
  specR _ _ _ _ _ _ _ _ _ _ _ _ _ _ _ _ _ _ B F X N T hk hd hu h
end
section
variable {prog : Program} {w : World} {A : Around} {E : Value → Shared → Prop} {s : Shared} {a b : Addr} {Q : Value → Shared → Prop}
theorem r_nepair {h₀ : Heap} {L : Addr} {news : List (Addr × Obj)} {o1 o2 : Obj} {x y x' y' : Int} {t u t' u' : Tok} {c c' : Nat} (N : News h₀ L s.heap news) (m1 : (a, o1) ∈ news) (m2 : (b, o2) ∈ news)
    (c1 : o1.cls = .type "tuple") (d1 : o1.data = .seq #[.int x t, .int y u] c) (c2 : o2.cls = .type "tuple") (d2 : o2.data = .seq #[.int x' t', .int y' u'] c') (he : x = x' ∧ y = y') (hu : A.units + 64 < cLine) (h : Q (.bool false) s) :
    wpAny (model prog w) A (compareOp .NotEq (.ref a) (.ref b)) Q E s := by
  refine ne_dataH (reads_tuple_at (News.get N m1) c1 d1 (.cons (Reads.int _ _) (.cons (Reads.int _ _) .nil))) (reads_tuple_at (News.get N m2) c2 d2 (.cons (Reads.int _ _) (.cons (Reads.int _ _) .nil))) ?_ ?_ hu ?_
  · rfl
  · rfl
  · obtain ⟨rfl, rfl⟩ := he
    simpa [PyData.eqv, PyData.eqvAll] using h
end
end Mine
end
section
open PySem PySem.W PyProof.Rows PySem.Calls
set_option maxRecDepth 100000
set_option maxHeartbeats 8000000
namespace Mine
theorem offLw72 : True ∧ True := by
  w_top off
  first | (walk1; done) | exact ⟨trivial, trivial⟩
set_option hygiene false in
local macro_rules | `(tactic| walk_at "binaryOp Add int int") => `(tactic| (with_reducible refine r_add ?_; intro qv hqv))
set_option hygiene false in
local macro_rules | `(tactic| walk_at "binaryOp Sub int int") => `(tactic| (with_reducible refine r_sub ?_; intro qv hqv))
set_option hygiene false in
local macro_rules | `(tactic| walk_at "binaryOp BitAnd int int") => `(tactic| (with_reducible refine r_and ?_; intro qv hqv))
set_option hygiene false in
local macro_rules | `(tactic| walk_at "binaryOp RShift int int") => `(tactic| (with_reducible refine r_shr (by first | walk_at "lw_nn" | fail "no lw_nn") ?_; intro qv hqv))
set_option hygiene false in
local macro_rules | `(tactic| walk_at "binaryOp LShift int int") => `(tactic| (with_reducible refine r_shl (by first | walk_at "lw_nn" | fail "no lw_nn") (by first | walk_at "lw_sz" | fail "no lw_sz") ?_; intro qv hqv))
set_option hygiene false in
local macro_rules | `(tactic| walk_at "binaryOp Mult int int") => `(tactic| (with_reducible refine r_mul (by first | walk_at "lw_mul" | fail "no lw_mul") ?_; intro qv hqv; try (have hB := base_mk hqv (by assumption) (by assumption) (by assumption) (by assumption) (by assumption) (by assumption))))
set_option hygiene false in
local macro_rules | `(tactic| walk_at "binaryOp Mod int int") => `(tactic| (with_reducible refine r_modp (by first | walk_at "lw_pos" | fail "no lw_pos") ?_; intro qv hqv hq0 hq1))
set_option hygiene false in
local macro_rules | `(tactic| walk_at "binaryOp FloorDiv int int") => `(tactic| (with_reducible refine r_fdivp (by decide) (by decide) ?_; intro qv hqv))
set_option hygiene false in
local macro_rules | `(tactic| walk_at "call builtin:int.bit_length") => `(tactic| (with_reducible refine r_bitlen ?_; intro nv hnv))
set_option hygiene false in
local macro_rules | `(tactic| walk_at "compareOp NotEq ref ref") => `(tactic| ((with_reducible show wpAny _ _ (compareOp CmpOp.NotEq (Value.ref _) (Value.ref _)) _ _ _); k_dflt (refine r_nepair (by k_asm) (by k_mem) (by k_mem) (by rfl) (by rfl) (by rfl) (by rfl) (by first | walk_at "lw_pair" | fail "no lw_pair") (by ke_room) ?_)))
set_option hygiene false in
local macro_rules | `(tactic| walk_at "subscriptTail Name Name ref int") => `(tactic| ((with_reducible show wpAny _ _ (subscriptTail _ _ (Value.ref _) (Value.int _ _)) _ _ _); k_dflt (refine' ksa_sub ?k1 ?k2 ?k3 ?k4 ?k5 ?k6 ?_ ?k7; (case k1 => k_asm); (case k2 => k_mem); (case k3 => with_reducible assumption); (case k4 => with_reducible assumption); (case k5 => exact idxA (by with_reducible assumption)); (case k6 => exact idxB (by with_reducible assumption) (by with_reducible assumption)); (case k7 => with_unfolding_all rfl)); intro _))
set_option hygiene false in
local macro_rules | `(tactic| walk_at "eval Name") => `(tactic| ((with_reducible show wpAny _ _ (eval (Expr.Name (Str.ofString "k") _) (compEnvC _ _ _ _)) _ _ _); k_dflt (refine LCgL.ld_own (by k_asm) (by k_mem) (by assumption) (by with_reducible assumption) ?_)))
set_option hygiene false in
local macro_rules | `(tactic| walk_at "eval Name") => `(tactic| ((with_reducible show wpAny _ _ (eval (Expr.Name (Str.ofString "row") _) (compEnvC _ _ _ _)) _ _ _); k_dflt (refine kcf_cell (by k_asm) (by rfl) (by k_mem) (by k_asm) ?_)))
set_option maxHeartbeats 16000000 in
theorem lawH : PySem.Challenge.rw_wv0072_01.Holds := by
  refine Mine.hd ?_
  k_with_none
  k_with "lw_part" => first | exact part_a' (by assumption) (by assumption) (by assumption) | exact part_b' (by assumption) (by assumption) | exact part_c' (by assumption) (by assumption) (by assumption)
  k_with "lw_d37" => first | assumption | exact And.left (by assumption) | exact And.left (And.right (by assumption)) | exact (And.right (by assumption)) | exact And.left (And.right (And.right (by assumption))) | exact (And.right (And.right (by assumption))) | exact And.left (And.right (And.right (And.right (by assumption)))) | exact (And.right (And.right (And.right (by assumption)))) | exact And.left (And.right (And.right (And.right (And.right (by assumption))))) | exact (And.right (And.right (And.right (And.right (by assumption))))) | exact And.left (And.right (And.right (And.right (And.right (And.right (by assumption)))))) | exact (And.right (And.right (And.right (And.right (And.right (by assumption)))))) | exact And.left (And.right (And.right (And.right (And.right (And.right (And.right (by assumption))))))) | exact (And.right (And.right (And.right (And.right (And.right (And.right (by assumption))))))) | exact And.left (And.right (And.right (And.right (And.right (And.right (And.right (And.right (by assumption)))))))) | exact (And.right (And.right (And.right (And.right (And.right (And.right (And.right (by assumption))))))))
  k_with "lw_mul" => first | exact mulok1 (by assumption) (by assumption) (by assumption) | exact mulok2 (by assumption) (by assumption) (by first | walk_at "lw_part" | fail "no lw_part") | exact mulok2 (by assumption) (by assumption) (half_le (by assumption) (by assumption) (by assumption) (by first | walk_at "lw_part" | fail "no lw_part"))
  k_with "lw_pair" => first | exact fl_a (by assumption) (by assumption) (by assumption) (by assumption) | exact fl_c (by assumption) (by assumption) (by assumption) (by assumption) (by assumption) (by assumption) (by assumption) | exact fl_b0 (by assumption) (by assumption) (by assumption) (by assumption) (by assumption) (by assumption) (by assumption) | exact fl_b1 (by assumption) (by assumption) (by assumption) (by assumption) (by assumption) (by assumption) (by assumption) (by assumption) (by assumption) | exact fl_d0 (by assumption) (by assumption) (by assumption) (by assumption) (by assumption) (by assumption) (by assumption) (by assumption) | exact fl_d1 (by assumption) (by assumption) (by assumption) (by assumption) (by assumption) (by assumption) (by assumption) (by assumption) (by assumption) (by assumption) | exact pair_2' (by assumption) (by assumption) (by assumption) (by assumption) | exact pair_3' (by assumption) (by assumption) (by assumption) (by assumption) (by assumption) (by assumption) (by assumption) (by assumption) (by assumption) (by assumption)
  k_with "lw_nn" => first | exact n_pos (by assumption) (by assumption) | exact half_nn' (by assumption) (by assumption) (by assumption) | decide
  k_with "lw_sz" => first | exact n_sz (by assumption) (by assumption) | exact half_sz (by assumption) (by assumption) (by assumption)
  k_with "lw_wb" => first | exact wb1 (by assumption) (by assumption) (by assumption) | exact wb2 (by assumption) (by assumption) (by assumption) (by assumption)
  k_with "lw_ne" => first | exact dn1 (by assumption) | exact dn2 (by assumption) (by assumption)
  k_with "lw_db" => first | exact db1 (by assumption) | exact db2 (by assumption) (by assumption)
  k_with "lw_pos" => first | (show (0 : Int) < 2; decide) | exact pos_d (by assumption) (by assumption)
  k_with "call ref" => (
    (with_reducible show wpAny _ _ (call (Value.ref 63) _) _ _ _)
    (refine wp_deepC ?_)
    (refine laid_use (by k_asm) (by k_asm) (by k_asm) (by k_asm) (by k_asm) (by first | exact rfl | assumption) (by assumption) (len36 (by assumption) (by assumption) (by assumption)) (by decide) (by ktr_units) ?_)
    intro x9 t9 h9 tk9 hx9 F9 N9
    (try ((rename (@Eq Nat _ (List.length (List.foldl _ _ _))) => hLx); clear hLx))
    (try ((rename (IntsAre _ (List.foldl _ _ _)) => hIx); clear hIx))
    (try dsimp only)
    (try k_fold))
  k_with "call ref" => (
    (with_reducible show wpAny _ _ (call (Value.ref 56) _) _ _ _)
    (refine wp_deepC ?_)
    k_dflt (refine dm_use (by k_asm) (by k_asm) (by k_asm) (by first | exact news0 (by k_asm) (by k_dflt k_mem) (by k_dflt k_mem) | exact news1 (by k_asm) | exact news2 (by k_asm)) (by k_asm) (by first | exact rfl | assumption) (by first | exact tabs0 | assumption) (by walk_at "lw_d37") (by first | assumption | kn_code) (by first | assumption | kn_code) (by walk_at "lw_wb") (by walk_at "lw_ne") (by walk_at "lw_db") (by decide) (by ktr_units) ?_)
    intro x9 y9 D9 t9 u9 c9 psA9 psD9 tA9 tD9 h9 tk9 hFl hT9' F9 N9 hl9
    (try dsimp only)
    (try k_fold))
  k_with "call ref" => (
    (with_reducible show wpAny _ _ (call (Value.ref 70) _) _ _ _)
    (refine wp_deepC ?_)
    k_dflt (refine ref_use (by k_asm) (by k_asm) (by k_asm) (by first | exact news3 (by k_asm) | k_asm) (by k_asm) (by first | exact rfl | assumption) (by decide) (by ktr_units) ?_)
    intro h9 tk9 F9 N9
    (try dsimp only)
    (try k_fold))
  k_with "call ref" => (
    (with_reducible show wpAny _ _ (call (Value.ref 21) _) _ _ _)
    (refine wp_deepC ?_)
    k_dflt (refine spec2_use (by k_asm) (by k_asm) (by k_asm) (by k_asm) (by k_asm) (by first | exact rfl | assumption) (div2_spec _ _ _ _ _ _ (pre_2' (by assumption) (by assumption) (by assumption) (by assumption) (by first | walk_at "lw_part" | fail "no lw_part"))) (by decide) (by ktr_units) ?_)
    intro x9 y9 D9 t9 u9 c9 h9 tk9 hP9 F9 N9 hl9
    (try dsimp only)
    (try k_fold))
  k_with "call ref" => (
    (with_reducible show wpAny _ _ (call (Value.ref 28) _) _ _ _)
    (refine wp_deepC ?_)
    k_dflt (refine spec2_use (by k_asm) (by k_asm) (by k_asm) (by k_asm) (by k_asm) (by first | exact rfl | assumption) (div3_spec _ _ _ _ _ _ _ _ _ _ _ _ (pre_3' (by assumption) (by assumption) (by assumption) (by assumption) (by assumption) (by assumption) (by assumption) (by assumption) (by assumption) (by assumption) (by assumption) (by assumption) (by assumption) (by assumption) (by assumption) (by first | walk_at "lw_part" | fail "no lw_part"))) (by decide) (by ktr_units) ?_)
    intro x9 y9 D9 t9 u9 c9 h9 tk9 hP9 F9 N9 hl9
    (try dsimp only)
    (try k_fold))
  w_strict (k_go0; (all_goals try k_fold); k_steps)
end Mine
end
theorem PySem.Challenge.cw_wv0072_01_holds : PySem.Challenge.rw_wv0072_01.Holds := by
  exact Mine.lawH
