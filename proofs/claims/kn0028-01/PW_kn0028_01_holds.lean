import PyProof.Rows.All
import Wide.All
import OpenK.AllK
import Wide.FinOn
import PySem.Challenge.RW_kn0028_01
set_option Elab.async false

section
namespace Mine
open PySem PySem.Float64

theorem V_inj {s t : Nat} (h : V s = V t) : s = t := by
  rcases Nat.lt_trichotomy s t with q | q | q
  · exact absurd h (Nat.ne_of_lt (V_lt q))
  · exact q
  · exact absurd h.symm (Nat.ne_of_lt (V_lt q))

theorem rep (n : Nat) (h : n ≤ 2 ^ 53) : ∃ t, t < infMag ∧ V t = n * 2 ^ 1073 := by
  have hi : infMag = 2047 * 2 ^ 52 := rfl
  by_cases h0 : n = 0
  · exact ⟨0, by rw [hi]; omega, by rw [V_zero, h0, Nat.zero_mul]⟩
  by_cases h1 : n = 2 ^ 53
  · refine ⟨1073 * 2 ^ 52 + 2 ^ 53, by rw [hi]; omega, ?_⟩
    rw [V_at (by omega) (.inl (by omega)), h1]
  · have hlo : 2 ^ n.log2 ≤ n := Nat.log2_self_le h0
    have hup : n < 2 ^ (n.log2 + 1) := Nat.lt_log2_self
    have hl : n.log2 ≤ 52 := by
      have : n.log2 < 53 := (Nat.log2_lt h0).mpr (by omega)
      omega
    generalize n.log2 = l at *
    have e52 : (2 : Nat) ^ 52 = 2 ^ l * 2 ^ (52 - l) := by rw [← Nat.pow_add]; congr 1; omega
    have e53 : (2 : Nat) ^ 53 = 2 ^ (l + 1) * 2 ^ (52 - l) := by rw [← Nat.pow_add]; congr 1; omega
    have p := Nat.two_pow_pos (52 - l)
    have q1 : 2 ^ 52 ≤ n * 2 ^ (52 - l) := by rw [e52]; exact Nat.mul_le_mul_right _ hlo
    have q2 : n * 2 ^ (52 - l) < 2 ^ 53 := by rw [e53]; exact Nat.mul_lt_mul_of_pos_right hup p
    refine ⟨(1021 + l) * 2 ^ 52 + n * 2 ^ (52 - l), by rw [hi]; omega, ?_⟩
    rw [V_at (by omega) (.inl q1), Nat.mul_assoc, ← Nat.pow_add]
    congr 2
    omega

theorem dist_self (a : Nat) : dist a a = 0 := by unfold dist; omega
theorem dist_zero {a b : Nat} (h : dist a b = 0) : a = b := by unfold dist at h; omega

theorem right_exact {r : UInt64} {neg : Bool} {W D t : Nat} (R : Right r neg W D) (hD : 0 < D) (hV : W = D * V t) (hs : 2 * V t < (2 ^ 54 - 1) * 2 ^ 2045) : r = pack neg t := by
  obtain ⟨t0, hr, hle, hinf, hn⟩ := R
  have hlt : t0 < infMag := by
    rcases Nat.lt_or_ge t0 infMag with h | h
    · exact h
    · have h1 := hinf.mp (Nat.le_antisymm hle h)
      generalize (2 ^ 54 - 1) * 2 ^ 2045 = C at *
      rw [hV, show 2 * (D * V t) = D * (2 * V t) by ac_rfl] at h1
      exact absurd (Nat.le_of_mul_le_mul_left h1 hD) (Nat.not_le.mpr hs)
  have h1 := (hn hlt t).1
  rw [hV, dist_self] at h1
  have h2 := dist_zero (Nat.le_zero.mp h1)
  rw [hr, V_inj (Nat.eq_of_mul_eq_mul_left hD h2)]

def Fin' (x : UInt64) : Prop := ∃ a m e, decode x = .fin a m e

/-- the float is the half of v, to the letter -/
def Is (x : UInt64) (v : Int) : Prop := Fin' x ∧ val x = v * ((2 ^ 1073 : Nat) : Int)

theorem fin_pack {neg : Bool} {t : Nat} (h : t < infMag) : Fin' (pack neg t) := by
  obtain ⟨m, e, hd, _⟩ := decode_pack neg h
  exact ⟨_, _, _, hd⟩

theorem small_rep {n t : Nat} (h : n ≤ 2 ^ 53) (hV : V t = n * 2 ^ 1073) : 2 * V t < (2 ^ 54 - 1) * 2 ^ 2045 := by
  rw [hV]
  have e : (2 : Nat) ^ 2045 = 2 ^ 972 * 2 ^ 1073 := by rw [← Nat.pow_add]
  have e2 : (2 : Nat) ^ 972 = 2 ^ 10 * 2 ^ 962 := by rw [← Nat.pow_add]
  have p1 := Nat.two_pow_pos 1073
  have p2 := Nat.two_pow_pos 962
  rw [e, e2]
  generalize (2 : Nat) ^ 1073 = K at *
  generalize (2 : Nat) ^ 962 = J at *
  have h1 : 2 * (n * K) ≤ 2 ^ 54 * K := by
    rw [show 2 * (n * K) = (2 * n) * K by ac_rfl]
    exact Nat.mul_le_mul_right _ (by omega)
  have h2 : (2 ^ 54 : Nat) < (2 ^ 54 - 1) * (2 ^ 10 * J) := by
    have h3 : (2 ^ 54 - 1) * (2 ^ 10 * 1) ≤ (2 ^ 54 - 1) * (2 ^ 10 * J) := Nat.mul_le_mul_left _ (Nat.mul_le_mul_left _ p2)
    omega
  have h4 : 2 ^ 54 * K < (2 ^ 54 - 1) * (2 ^ 10 * J) * K := Nat.mul_lt_mul_of_pos_right h2 p1
  rw [show (2 ^ 54 - 1) * (2 ^ 10 * J * K) = (2 ^ 54 - 1) * (2 ^ 10 * J) * K by ac_rfl]
  omega

theorem is_of_right {r : UInt64} {neg : Bool} {W D : Nat} {v : Int} (R : Right r neg W D) (hD : 0 < D) (hv : v.natAbs ≤ 2 ^ 53) (hW : W = D * (v.natAbs * 2 ^ 1073)) (hn : v ≠ 0 → neg = decide (v < 0)) : Is r v := by
  obtain ⟨t, ht, hV⟩ := rep v.natAbs hv
  have hr := right_exact R hD (by rw [hV]; exact hW) (small_rep hv hV)
  rw [hr]
  refine ⟨fin_pack ht, ?_⟩
  rw [val_pack neg ht, hV]
  generalize (2 : Nat) ^ 1073 = K
  by_cases h0 : v = 0
  · subst h0
    unfold sgn
    cases neg <;> simp
  · rw [hn h0]
    unfold sgn
    by_cases h1 : v < 0
    · rw [if_pos (by simpa using h1), Int.natCast_mul, ← Int.neg_mul]
      congr 1
      omega
    · rw [if_neg (by simpa using h1), Int.natCast_mul]
      congr 1
      omega

theorem is_zero (s : Bool) : Is (zero s) 0 := by
  have h : (0 : Nat) < infMag := by decide
  refine ⟨fin_pack h, ?_⟩
  show val (pack s 0) = _
  rw [val_pack s h, V_zero]
  unfold sgn
  cases s <;> simp

theorem fin_isFinite {x : UInt64} (h : Fin' x) : isFinite x = true := by
  obtain ⟨a, m, e, h⟩ := h
  unfold isFinite; rw [h]

theorem natAbs_K (v : Int) (K : Nat) : (v * (K : Int)).natAbs = v.natAbs * K := by rw [Int.natAbs_mul, Int.natAbs_natCast]

theorem K_pos : (0 : Int) < ((2 ^ 1073 : Nat) : Int) := Int.ofNat_lt.mpr (Nat.two_pow_pos _)

theorem mul_K_neg {v K : Int} (h : 0 < K) : decide (v * K < 0) = decide (v < 0) := by
  apply decide_eq_decide.mpr
  constructor
  · intro q
    by_cases h2 : v < 0
    · exact h2
    · have := Int.mul_nonneg (show 0 ≤ v by omega) (Int.le_of_lt h)
      omega
  · intro q
    exact Int.mul_neg_of_neg_of_pos q h

theorem add_is {x y : UInt64} {u v : Int} (hx : Is x u) (hy : Is y v) (hb : (u + v).natAbs ≤ 2 ^ 53) : Is (add x y) (u + v) := by
  obtain ⟨⟨a, m, e, dx⟩, vx⟩ := hx
  obtain ⟨⟨b, k, f, dy⟩, vy⟩ := hy
  have R := add_right dx dy
  have hK := K_pos
  rw [vx, vy, ← Int.add_mul] at R
  by_cases h0 : u + v = 0
  · rw [h0]
    rw [R.1 (by rw [h0, Int.zero_mul])]
    exact is_zero _
  · have hne : (u + v) * ((2 ^ 1073 : Nat) : Int) ≠ 0 := by
      intro q
      rcases Int.mul_eq_zero.mp q with q | q
      · exact h0 q
      · rw [q] at hK; exact absurd hK (by decide)
    refine is_of_right (R.2 hne) (by decide) hb ?_ fun _ => mul_K_neg hK
    rw [natAbs_K, Nat.one_mul]

theorem neg_is {x : UInt64} {u : Int} (hx : Is x u) : Is (neg x) (-u) := by
  obtain ⟨⟨a, m, e, dx⟩, vx⟩ := hx
  exact ⟨⟨_, _, _, neg_decode dx⟩, by rw [neg_val dx, vx, Int.neg_mul]⟩

theorem sub_is {x y : UInt64} {u v : Int} (hx : Is x u) (hy : Is y v) (hb : (u - v).natAbs ≤ 2 ^ 53) : Is (sub x y) (u - v) := by
  have := add_is hx (neg_is hy) (by rw [← Int.sub_eq_add_neg]; exact hb)
  rw [← Int.sub_eq_add_neg] at this
  unfold Float64.sub
  exact this

theorem ofInt_is {n : Int} (h : (2 * n).natAbs ≤ 2 ^ 53) : Is (ofInt n) (2 * n) := by
  refine is_of_right (ofInt_right n) (by decide) h ?_ fun _ => ?_
  · rw [Nat.one_mul, Int.natAbs_mul]
    have e : (2 : Nat) ^ 1074 = 2 * 2 ^ 1073 := by rw [Nat.pow_succ, Nat.mul_comm]
    rw [e]
    generalize (2 : Nat) ^ 1073 = K
    show n.natAbs * (2 * K) = 2 * n.natAbs * K
    ac_rfl
  · apply decide_eq_decide.mpr; omega

theorem sgn_sign {x : UInt64} {a : Bool} {m : Nat} {e : Int} {v : Int} (dx : decode x = .fin a m e) (vx : val x = v * ((2 ^ 1073 : Nat) : Int)) (h0 : v ≠ 0) : a = decide (v < 0) := by
  have hK := K_pos
  rw [val_eq dx] at vx
  generalize m * 2 ^ (e + 1074).toNat = M at *
  rw [← mul_K_neg hK, ← vx]
  have hne : sgn a M ≠ 0 := by
    rw [vx]
    intro q
    rcases Int.mul_eq_zero.mp q with q | q
    · exact h0 q
    · rw [q] at hK; exact absurd hK (by decide)
  unfold sgn at *
  cases a
  · symm
    simp at hne ⊢
  · symm
    simp at hne ⊢
    omega

/-- a half times a whole number -/
theorem mul_is {x y : UInt64} {u v : Int} (hx : Is x u) (hy : Is y (2 * v)) (hb : (u * v).natAbs ≤ 2 ^ 53) : Is (mul x y) (u * v) := by
  obtain ⟨⟨a, m, e, dx⟩, vx⟩ := hx
  obtain ⟨⟨b, k, f, dy⟩, vy⟩ := hy
  refine is_of_right (mul_right dx dy) (Nat.two_pow_pos _) hb ?_ fun h0 => ?_
  · rw [vx, vy, natAbs_K, natAbs_K, Int.natAbs_mul, Int.natAbs_mul]
    have e : (2 : Nat) ^ 1074 = 2 * 2 ^ 1073 := by rw [Nat.pow_succ, Nat.mul_comm]
    rw [e]
    generalize (2 : Nat) ^ 1073 = K
    show u.natAbs * K * (2 * v.natAbs * K) = 2 * K * (u.natAbs * v.natAbs * K)
    ac_rfl
  · have hu : u ≠ 0 := fun q => h0 (by rw [q, Int.zero_mul])
    have hv : v ≠ 0 := fun q => h0 (by rw [q, Int.mul_zero])
    rw [sgn_sign dx vx hu, sgn_sign dy vy (by omega)]
    rcases Int.lt_trichotomy u 0 with p | p | p <;> rcases Int.lt_trichotomy v 0 with q | q | q <;> first | exact absurd p hu | exact absurd q hv | skip
    · have := Int.mul_pos_of_neg_of_neg p q
      have h1 : ¬ u * v < 0 := by omega
      have h2 : 2 * v < 0 := by omega
      simp [p, h2, h1]
    · have := Int.mul_neg_of_neg_of_pos p q
      have h2 : ¬ 2 * v < 0 := by omega
      simp [p, h2, this]
    · have := Int.mul_neg_of_pos_of_neg p q
      have h2 : 2 * v < 0 := by omega
      have h3 : ¬ u < 0 := by omega
      simp [h3, h2, this]
    · have := Int.mul_pos p q
      have h2 : ¬ 2 * v < 0 := by omega
      have h3 : ¬ u < 0 := by omega
      have h1 : ¬ u * v < 0 := by omega
      simp [h3, h2, h1]

theorem fma_zero {x y z : UInt64} {u v : Int} (hx : Is x u) (hy : Is y (2 * v)) (hz : Is z (-(u * v))) : Is (fma x y z) 0 := by
  obtain ⟨⟨a, m, e, dx⟩, vx⟩ := hx
  obtain ⟨⟨b, k, f, dy⟩, vy⟩ := hy
  obtain ⟨⟨c, n, g, dz⟩, vz⟩ := hz
  have he := decode_ge dx
  have hf := decode_ge dy
  have hg := decode_ge dz
  rw [val_eq dx, sgn_mul] at vx
  rw [val_eq dy, sgn_mul] at vy
  rw [val_eq dz, sgn_mul] at vz
  have hxor : sgn (a != b) (m * k) = sgn a m * sgn b k := by unfold sgn; cases a <;> cases b <;> simp [Int.neg_mul, Int.mul_neg]
  have key : (sgn (a != b) (m * k * 2 ^ (e + f - min (e + f) g).toNat) + sgn c (n * 2 ^ (g - min (e + f) g).toNat)) = 0 := by
    rw [sgn_mul (a != b) (m * k), sgn_mul c n, hxor]
    have hp : (0 : Int) < ((2 ^ (min (e + f) g + 2148).toNat : Nat) : Int) := Int.ofNat_lt.mpr (Nat.two_pow_pos _)
    have hz : (sgn a m * sgn b k * ((2 ^ (e + f - min (e + f) g).toNat : Nat) : Int) + sgn c n * ((2 ^ (g - min (e + f) g).toNat : Nat) : Int)) * ((2 ^ (min (e + f) g + 2148).toNat : Nat) : Int) = 0 := by
      rw [Int.add_mul, Int.mul_assoc, Int.mul_assoc (sgn c n), ← Int.natCast_mul, ← Int.natCast_mul, ← Nat.pow_add, ← Nat.pow_add]
      have e1 : (e + f - min (e + f) g).toNat + (min (e + f) g + 2148).toNat = (e + 1074).toNat + (f + 1074).toNat := by omega
      have e2 : (g - min (e + f) g).toNat + (min (e + f) g + 2148).toNat = (g + 1074).toNat + 1074 := by omega
      rw [e1, e2, Nat.pow_add, Nat.pow_add, Int.natCast_mul, Int.natCast_mul]
      have e3 : (2 : Nat) ^ 1074 = 2 * 2 ^ 1073 := by rw [Nat.pow_succ, Nat.mul_comm]
      rw [e3]
      generalize ((2 ^ (e + 1074).toNat : Nat) : Int) = X at *
      generalize ((2 ^ (f + 1074).toNat : Nat) : Int) = Y at *
      generalize ((2 ^ (g + 1074).toNat : Nat) : Int) = Z at *
      generalize (2 : Nat) ^ 1073 = K at *
      rw [Int.natCast_mul]
      have s1 : sgn a m * sgn b k * (X * Y) = (sgn a m * X) * (sgn b k * Y) := by ac_rfl
      have s2 : sgn c n * (Z * (((2 : Nat) : Int) * (K : Int))) = (sgn c n * Z) * (2 * (K : Int)) := (Int.mul_assoc _ _ _).symm
      rw [s1, s2, vx, vy, vz]
      have s3 : u * (K : Int) * (2 * v * (K : Int)) = (u * v) * (2 * (K : Int) * (K : Int)) := by ac_rfl
      have s4 : -(u * v) * (K : Int) * (2 * (K : Int)) = -((u * v) * (2 * (K : Int) * (K : Int))) := by
        have s5 : u * v * (K : Int) * (2 * (K : Int)) = u * v * (2 * (K : Int) * (K : Int)) := by ac_rfl
        rw [Int.neg_mul, Int.neg_mul, s5]
      rw [s3, s4]
      omega
    rcases Int.mul_eq_zero.mp hz with q | q
    · exact q
    · rw [q] at hp; exact absurd hp (by decide)
  have hfma : ∃ s, fma x y z = zero s := by
    unfold fma
    rw [dx, dy, dz]
    simp only [align]
    have hb : (sgn (a != b) (m * k * 2 ^ (e + f - min (e + f) g).toNat) + sgn c (n * 2 ^ (g - min (e + f) g).toNat) == 0) = true := by rw [key]; rfl
    exact ⟨_, if_pos hb⟩
  obtain ⟨s, h⟩ := hfma
  rw [h]
  exact is_zero s

theorem isZero_iff {x : UInt64} {v : Int} (h : Is x v) : isZero x = decide (v = 0) := by
  obtain ⟨⟨a, m, e, dx⟩, vx⟩ := h
  have hK := K_pos
  have hm : m = 0 ↔ v = 0 := by
    have h1 := val_natAbs dx
    rw [vx, natAbs_K] at h1
    have p1 := Nat.two_pow_pos 1073
    have p2 := Nat.two_pow_pos (e + 1074).toNat
    constructor
    · intro q
      rw [q, Nat.zero_mul] at h1
      rcases Nat.mul_eq_zero.mp h1 with h | h
      · omega
      · omega
    · intro q
      rw [q, Int.natAbs_zero, Nat.zero_mul] at h1
      rcases Nat.mul_eq_zero.mp h1.symm with h | h
      · exact h
      · omega
  unfold isZero
  rw [dx]
  cases m with
  | zero => simp [hm.mp rfl]
  | succ m =>
    have : v ≠ 0 := fun q => by have := hm.mpr q; omega
    simp [this]

open PySem.Builtin.Math

theorem dlSum_is {x y : UInt64} {u v : Int} (hx : Is x u) (hy : Is y v) (hu : u.natAbs ≤ 2 ^ 53) (hv : v.natAbs ≤ 2 ^ 53) (hb : (u + v).natAbs ≤ 2 ^ 53) : Is (dlSum x y).1 (u + v) ∧ Is (dlSum x y).2 0 := by
  have h1 := add_is hx hy hb
  have h2 := sub_is h1 hx (by rw [show u + v - u = v by omega]; exact hv)
  rw [show u + v - u = v by omega] at h2
  have h3 := sub_is h1 h2 (by rw [show u + v - v = u by omega]; exact hu)
  rw [show u + v - v = u by omega] at h3
  have h4 := sub_is hx h3 (by rw [Int.sub_self]; decide)
  rw [Int.sub_self] at h4
  have h5 := sub_is hy h2 (by rw [Int.sub_self]; decide)
  rw [Int.sub_self] at h5
  have h6 := add_is h4 h5 (by decide)
  exact ⟨h1, h6⟩

theorem dlMul_is {x y : UInt64} {u v : Int} (hx : Is x u) (hy : Is y (2 * v)) (hb : (u * v).natAbs ≤ 2 ^ 53) : Is (dlMul x y).1 (u * v) ∧ Is (dlMul x y).2 0 := by
  have h1 := mul_is hx hy hb
  exact ⟨h1, fma_zero hx hy (neg_is h1)⟩

def TIs (t : UInt64 × UInt64 × UInt64) (v : Int) : Prop := Is t.1 v ∧ Is t.2.1 0 ∧ Is t.2.2 0

theorem tlFma_is {x y : UInt64} {t : UInt64 × UInt64 × UInt64} {u v s : Int} (hx : Is x u) (hy : Is y (2 * v)) (ht : TIs t s) (hb : (u * v).natAbs ≤ 2 ^ 53) (hs : s.natAbs ≤ 2 ^ 53) (hc : (s + u * v).natAbs ≤ 2 ^ 53) :
    TIs (tlFma x y t) (s + u * v) := by
  obtain ⟨p1, p2⟩ := dlMul_is hx hy hb
  obtain ⟨m1, m2⟩ := dlSum_is ht.1 p1 hs hb hc
  obtain ⟨r1, r2⟩ := dlSum_is ht.2.1 p2 (by decide) (by decide) (by decide)
  obtain ⟨q1, q2⟩ := dlSum_is r1 m2 (by decide) (by decide) (by decide)
  have a1 := add_is ht.2.2 r2 (by decide)
  have a2 := add_is a1 q2 (by decide)
  exact ⟨m1, q1, a2⟩

theorem tlToFloat_is {t : UInt64 × UInt64 × UInt64} {s : Int} (ht : TIs t s) (hs : s.natAbs ≤ 2 ^ 53) : Is (tlToFloat t) s := by
  obtain ⟨r1, r2⟩ := dlSum_is ht.2.1 ht.1 (by decide) hs (by rw [Int.zero_add]; exact hs)
  have a1 := add_is ht.2.2 r2 (by decide)
  have a2 := add_is a1 r1 (by rw [Int.zero_add, Int.zero_add, Int.zero_add]; exact hs)
  rw [Int.zero_add, Int.zero_add, Int.zero_add] at a2
  exact a2

/-- the parts that fsum keeps: none or one, and what they come to -/
def PIs (ps : List UInt64) (v : Int) : Prop := (ps = [] ∧ v = 0) ∨ ∃ p, ps = [p] ∧ Is p v

theorem fsumAdd_is {ps : List UInt64} {x : UInt64} {u v : Int} (hp : PIs ps u) (hx : Is x v) (hu : u.natAbs ≤ 2 ^ 53) (hv : v.natAbs ≤ 2 ^ 53) (hb : (u + v).natAbs ≤ 2 ^ 53) :
    (fsumAdd ps x).1 = [] ∧ Is (fsumAdd ps x).2 (u + v) := by
  rcases hp with ⟨rfl, rfl⟩ | ⟨p, rfl, hp⟩
  · rw [Int.zero_add]
    exact ⟨rfl, hx⟩
  · have key : ∀ (x y : UInt64) (u v : Int), Is x u → Is y v → u.natAbs ≤ 2 ^ 53 → v.natAbs ≤ 2 ^ 53 → (u + v).natAbs ≤ 2 ^ 53 → isZero (sub y (sub (add x y) x)) = true ∧ Is (add x y) (u + v) := by
      intro x y u v hx hy hu hv hb
      have h1 := add_is hx hy hb
      have h2 := sub_is h1 hx (by rw [show u + v - u = v by omega]; exact hv)
      rw [show u + v - u = v by omega] at h2
      have h5 := sub_is hy h2 (by rw [Int.sub_self]; decide)
      rw [Int.sub_self] at h5
      exact ⟨by rw [isZero_iff h5]; rfl, h1⟩
    unfold fsumAdd
    by_cases hc : lt (abs x) (abs p) = true
    · rw [if_pos hc]
      obtain ⟨k1, k2⟩ := key p x u v hp hx hu hv hb
      simp only [fsumAdd, k1, if_true]
      exact ⟨trivial, k2⟩
    · rw [if_neg hc]
      obtain ⟨k1, k2⟩ := key x p v u hx hp hv hu (by rw [Int.add_comm]; exact hb)
      rw [Int.add_comm] at k2
      simp only [fsumAdd, k1, if_true]
      exact ⟨trivial, k2⟩

theorem fsum_step {ps : List UInt64} {x : UInt64} {u v : Int} (hp : PIs ps u) (hx : Is x v) (hu : u.natAbs ≤ 2 ^ 53) (hv : v.natAbs ≤ 2 ^ 53) (hb : (u + v).natAbs ≤ 2 ^ 53) :
    isFinite (fsumAdd ps x).2 = true ∧ PIs (if isZero (fsumAdd ps x).2 then (fsumAdd ps x).1 else (fsumAdd ps x).1 ++ [(fsumAdd ps x).2]) (u + v) := by
  obtain ⟨h1, h2⟩ := fsumAdd_is hp hx hu hv hb
  refine ⟨fin_isFinite h2.1, ?_⟩
  rw [isZero_iff h2, h1]
  by_cases h0 : u + v = 0
  · rw [if_pos (by simpa using h0), h0]
    exact .inl ⟨rfl, rfl⟩
  · rw [if_neg (by simpa using h0)]
    exact .inr ⟨_, rfl, h2⟩

theorem fsumEnd_is {ps : List UInt64} {u : Int} (hp : PIs ps u) : Is (fsumEnd ps) u := by
  rcases hp with ⟨rfl, rfl⟩ | ⟨p, rfl, hp⟩
  · exact is_zero false
  · exact hp

theorem dist_mid {M a b c : Nat} (h1 : a < b) (h2 : b < c) (h : dist M a = dist M c) : dist M b < dist M a := by
  unfold dist at *
  omega

theorem right_lt {W D W' D' t t' : Nat} (hD : 0 < D) (hD' : 0 < D') (h : W * D' = W' * D)
    (n : ∀ x, dist W (D * V t) ≤ dist W (D * V x) ∧ (V x ≠ V t → dist W (D * V t) = dist W (D * V x) → t % 2 = 0))
    (n' : ∀ x, dist W' (D' * V t') ≤ dist W' (D' * V x) ∧ (V x ≠ V t' → dist W' (D' * V t') = dist W' (D' * V x) → t' % 2 = 0)) : ¬ t < t' := by
  intro hlt
  have e1 : ∀ v, dist (W * D') (D * D' * v) = D' * dist W (D * v) := fun v => by
    rw [← dist_mul, show W * D' = D' * W by ac_rfl, show D * D' * v = D' * (D * v) by ac_rfl]
  have e2 : ∀ v, dist (W * D') (D * D' * v) = D * dist W' (D' * v) := fun v => by
    rw [← dist_mul, h, show W' * D = D * W' by ac_rfl, show D * D' * v = D * (D' * v) by ac_rfl]
  have m1 : ∀ x, dist (W * D') (D * D' * V t) ≤ dist (W * D') (D * D' * V x) := fun x => by
    rw [e1, e1]; exact Nat.mul_le_mul_left _ (n x).1
  have m2 : ∀ x, dist (W * D') (D * D' * V t') ≤ dist (W * D') (D * D' * V x) := fun x => by
    rw [e2, e2]; exact Nat.mul_le_mul_left _ (n' x).1
  have eq : dist (W * D') (D * D' * V t) = dist (W * D') (D * D' * V t') := Nat.le_antisymm (m1 t') (m2 t)
  have hV := V_lt hlt
  have p1 : t % 2 = 0 := (n t').2 (Nat.ne_of_gt hV) (by
    rw [e1, e1] at eq; exact Nat.eq_of_mul_eq_mul_left hD' eq)
  have p2 : t' % 2 = 0 := (n' t).2 (Nat.ne_of_lt hV) (by
    rw [e2, e2] at eq; exact (Nat.eq_of_mul_eq_mul_left hD eq).symm)
  have hN : 0 < D * D' := Nat.mul_pos hD hD'
  have k1 : D * D' * V t < D * D' * V (t + 1) := Nat.mul_lt_mul_of_pos_left (V_succ t) hN
  have k2 : D * D' * V (t + 1) < D * D' * V t' := Nat.mul_lt_mul_of_pos_left (V_lt (by omega)) hN
  exact absurd (m1 (t + 1)) (Nat.not_le.mpr (dist_mid k1 k2 eq))

theorem right_unique {r r' : UInt64} {neg : Bool} {W D W' D' : Nat} (R : Right r neg W D) (R' : Right r' neg W' D') (hD : 0 < D) (hD' : 0 < D') (h : W * D' = W' * D) : r = r' := by
  obtain ⟨t, hr, hle, hinf, hn⟩ := R
  obtain ⟨t', hr', hle', hinf', hn'⟩ := R'
  have hover : t = infMag ↔ t' = infMag := by
    rw [hinf, hinf']
    generalize (2 ^ 54 - 1) * 2 ^ 2045 = C
    have a1 : D * C * D' = D' * C * D := by ac_rfl
    have a2 : 2 * W * D' = 2 * W' * D := by rw [Nat.mul_assoc, h, Nat.mul_assoc]
    constructor
    · intro q
      have := Nat.mul_le_mul_right D' q
      rw [a1, a2] at this
      exact Nat.le_of_mul_le_mul_right this hD
    · intro q
      have := Nat.mul_le_mul_right D q
      rw [← a1, ← a2] at this
      exact Nat.le_of_mul_le_mul_right this hD'
  rw [hr, hr']
  by_cases hi : t = infMag
  · rw [hi, hover.mp hi]
  · have hi' : t' ≠ infMag := fun q => hi (hover.mpr q)
    have n1 := hn (Nat.lt_of_le_of_ne hle hi)
    have n2 := hn' (Nat.lt_of_le_of_ne hle' hi')
    rcases Nat.lt_trichotomy t t' with q | q | q
    · exact absurd q (right_lt hD hD' h n1 n2)
    · rw [q]
    · exact absurd q (right_lt hD' hD h.symm n2 n1)

theorem cmp_self {x : UInt64} (h : isNaN x = false) : cmp x x = some .eq := by
  unfold cmp
  unfold isNaN at h
  cases hd : decode x with
  | nan => rw [hd] at h; cases h
  | inf a => simp
  | fin a m e => simp [align]

theorem right_notNaN {r : UInt64} {neg : Bool} {W D : Nat} (R : Right r neg W D) : isNaN r = false := by
  obtain ⟨t, hr, hle, _, _⟩ := R
  rw [hr]
  exact PySem.W.isNaN_pack neg hle

theorem is_cmp {x y : UInt64} {v : Int} (hx : Is x v) (hy : Is y v) : cmp x y = some .eq := by
  obtain ⟨⟨a, m, e, dx⟩, vx⟩ := hx
  obtain ⟨⟨b, k, f, dy⟩, vy⟩ := hy
  rw [cmp_right dx dy, vx, vy]
  simp

/-- one rounding of one quotient, by whatever road -/
theorem quot_eq {x y : UInt64} {u v a b : Int} (hx : Is x u) (hy : Is y v) (hv : v ≠ 0) (hb : b ≠ 0) (h : u.natAbs * b.natAbs = a.natAbs * v.natAbs) (s1 : decide (u < 0) = decide (a < 0)) (s2 : decide (v < 0) = decide (b < 0)) :
    cmp (div x y) (ofFrac (decide (a < 0) != decide (b < 0)) a.natAbs b.natAbs) = some .eq := by
  obtain ⟨⟨sa, m, e, dx⟩, vx⟩ := hx
  obtain ⟨⟨sb, k, f, dy⟩, vy⟩ := hy
  have hk : k ≠ 0 := by
    have hz := isZero_iff (x := y) (v := v) ⟨⟨sb, k, f, dy⟩, vy⟩
    unfold isZero at hz
    rw [dy] at hz
    intro q
    subst q
    have : decide (v = 0) = true := hz.symm
    simp at this
    exact hv this
  have R := div_right dx dy hk
  rw [vx, vy, natAbs_K, natAbs_K] at R
  have hb' : 0 < b.natAbs := by omega
  have hv' : 0 < v.natAbs := by omega
  have R' : Right (ofFrac (decide (a < 0) != decide (b < 0)) a.natAbs b.natAbs) (decide (a < 0) != decide (b < 0)) (a.natAbs * 2 ^ 1074) b.natAbs := ofFrac_right hb' rfl hb'
  have hD : 0 < v.natAbs * 2 ^ 1073 := Nat.mul_pos hv' (Nat.two_pow_pos _)
  by_cases hu : u = 0
  · have ha : a = 0 := by
      rw [hu, Int.natAbs_zero, Nat.zero_mul] at h
      rcases Nat.mul_eq_zero.mp h.symm with q | q <;> omega
    refine is_cmp (v := 0) (is_of_right R hD (by decide) ?_ (fun q => absurd rfl q)) (is_of_right R' hb' (by decide) ?_ (fun q => absurd rfl q))
    · rw [hu]; simp
    · rw [ha]; simp
  · rw [sgn_sign dx vx hu, sgn_sign dy vy hv, s1, s2] at R
    have : div x y = ofFrac (decide (a < 0) != decide (b < 0)) a.natAbs b.natAbs := by
      refine right_unique R R' hD hb' ?_
      generalize (2 : Nat) ^ 1073 = K at *
      generalize (2 : Nat) ^ 1074 = J at *
      calc u.natAbs * K * J * b.natAbs = (u.natAbs * b.natAbs) * K * J := by ac_rfl
        _ = (a.natAbs * v.natAbs) * K * J := by rw [h]
        _ = a.natAbs * J * (v.natAbs * K) := by ac_rfl
    rw [this]
    exact cmp_self (right_notNaN R')

end Mine
end

section
namespace Mine

abbrev Pt := Int × Int

def edges (pts : List Pt) : List (Pt × Pt) := ((pts.getLast?.getD (0, 0)) :: pts).zip pts

theorem edges_length (pts : List Pt) : (edges pts).length = pts.length := by
  unfold edges
  rw [List.length_zip, List.length_cons]
  omega

theorem edges_get {pts : List Pt} {k : Nat} (h : k < pts.length) :
    (edges pts)[k]? = some ((if k = 0 then pts.getLast?.getD (0, 0) else (pts[k - 1]?).getD (0, 0)), (pts[k]?).getD (0, 0)) := by
  unfold edges
  rw [List.getElem?_zip_eq_some]
  refine ⟨?_, by simp [h]⟩
  cases k with
  | zero => simp
  | succ k => simp [show k < pts.length by omega]

theorem edges_mem {pts : List Pt} {e : Pt × Pt} (h : e ∈ edges pts) : e.1 ∈ pts ∧ e.2 ∈ pts := by
  unfold edges at h
  have h2 := List.of_mem_zip (a := e.1) (b := e.2) h
  refine ⟨?_, h2.2⟩
  have hne : pts ≠ [] := List.ne_nil_of_mem h2.2
  rcases List.mem_cons.mp h2.1 with q | q
  · rw [q, List.getLast?_eq_some_getLast hne]
    exact List.getLast_mem hne
  · exact q

theorem zip_telescope (G : Pt → Int) : ∀ (pts : List Pt) (p : Pt), (((p :: pts).zip pts).map fun e => G e.2 - G e.1).sum = G (pts.getLast?.getD p) - G p
  | [], p => by simp
  | q :: r, p => by
    have ih := zip_telescope G r q
    rw [List.zip_cons_cons, List.map_cons, List.sum_cons, ih]
    cases r with
    | nil => simp
    | cons a r => simp [List.getLast?_cons]; omega

theorem telescope (G : Pt → Int) (pts : List Pt) : ((edges pts).map fun e => G e.2 - G e.1).sum = 0 := by
  unfold edges
  cases pts with
  | nil => simp
  | cons a r =>
    rw [zip_telescope]
    simp [List.getLast?_cons]

theorem sum_add {α : Type} (f g : α → Int) : ∀ l : List α, (l.map fun x => f x + g x).sum = (l.map f).sum + (l.map g).sum
  | [] => by simp
  | x :: r => by simp only [List.map_cons, List.sum_cons, sum_add f g r]; omega

def dat (px : Int) (e : Pt × Pt) : Int := px + e.1.1 + e.2.1
def wt (px py : Int) (e : Pt × Pt) : Int := (e.1.1 - px) * (e.2.2 - py) - (e.2.1 - px) * (e.1.2 - py)
def topE (e : Pt × Pt) : Int := (e.2.2 - e.1.2) * (e.1.1 * e.1.1 + e.1.1 * e.2.1 + e.2.1 * e.2.1)
def lowE (e : Pt × Pt) : Int := (e.2.2 - e.1.2) * (e.1.1 + e.2.1)

def top (pts : List Pt) : Int := ((edges pts).map topE).sum
def low (pts : List Pt) : Int := ((edges pts).map lowE).sum

theorem wt_eq (px py : Int) (e : Pt × Pt) : wt px py e = lowE e + ((-(e.2.2 * e.2.1) + py * e.2.1 - px * e.2.2) - (-(e.1.2 * e.1.1) + py * e.1.1 - px * e.1.2)) := by
  obtain ⟨⟨x, y⟩, ⟨z, w⟩⟩ := e
  unfold wt lowE
  simp only
  grind

theorem dat_eq (px py : Int) (e : Pt × Pt) : dat px e * wt px py e = topE e +
    ((-(e.2.2 * e.2.1 * e.2.1) + py * e.2.1 * e.2.1 - px * e.2.2 * e.2.1 + px * py * e.2.1 - px * px * e.2.2) - (-(e.1.2 * e.1.1 * e.1.1) + py * e.1.1 * e.1.1 - px * e.1.2 * e.1.1 + px * py * e.1.1 - px * px * e.1.2)) := by
  obtain ⟨⟨x, y⟩, ⟨z, w⟩⟩ := e
  unfold wt topE dat
  simp only
  grind

theorem wt_sum (px py : Int) (pts : List Pt) : ((edges pts).map (wt px py)).sum = low pts := by
  have h : (edges pts).map (wt px py) = (edges pts).map fun e => lowE e + ((-(e.2.2 * e.2.1) + py * e.2.1 - px * e.2.2) - (-(e.1.2 * e.1.1) + py * e.1.1 - px * e.1.2)) :=
    List.map_congr_left fun e _ => wt_eq px py e
  rw [h, sum_add lowE, telescope (fun p => -(p.2 * p.1) + py * p.1 - px * p.2)]
  exact Int.add_zero _

theorem dat_sum (px py : Int) (pts : List Pt) : ((edges pts).map fun e => dat px e * wt px py e).sum = top pts := by
  have h := List.map_congr_left (l := edges pts) fun e _ => dat_eq px py e
  rw [h, sum_add topE, telescope (fun p => -(p.2 * p.1 * p.1) + py * p.1 * p.1 - px * p.2 * p.1 + px * py * p.1 - px * px * p.2)]
  exact Int.add_zero _

/-! sizes -/
def Small (b : Int) (p : Pt) : Prop := -b ≤ p.1 ∧ p.1 ≤ b ∧ -b ≤ p.2 ∧ p.2 ≤ b

theorem sum_bound {α : Type} {f : α → Int} {B : Int} (hB : 0 ≤ B) : ∀ {l : List α}, (∀ x ∈ l, -B ≤ f x ∧ f x ≤ B) → -(B * l.length) ≤ (l.map f).sum ∧ (l.map f).sum ≤ B * l.length
  | [], _ => by simp
  | x :: r, h => by
    have ih := sum_bound hB (l := r) fun y hy => h y (.tail _ hy)
    have hx := h x (.head _)
    simp only [List.map_cons, List.sum_cons, List.length_cons, Int.natCast_succ, Int.mul_add, Int.mul_one]
    omega

theorem take_bound {α : Type} {f : α → Int} {B : Int} {l : List α} {k N : Nat} (hB : 0 ≤ B) (h : ∀ x ∈ l, -B ≤ f x ∧ f x ≤ B) (hN : l.length ≤ N) : -(B * N) ≤ ((l.take k).map f).sum ∧ ((l.take k).map f).sum ≤ B * N := by
  have h1 := sum_bound hB (l := l.take k) fun x hx => h x (List.mem_of_mem_take hx)
  have h2 : (l.take k).length ≤ N := by rw [List.length_take]; omega
  have h3 : B * ((l.take k).length : Int) ≤ B * N := Int.mul_le_mul_of_nonneg_left (Int.ofNat_le.mpr h2) hB
  omega

theorem mul_bound {a b A B : Int} (ha : -A ≤ a ∧ a ≤ A) (hb : -B ≤ b ∧ b ≤ B) : -(A * B) ≤ a * b ∧ a * b ≤ A * B := by
  have hA : 0 ≤ A := by omega
  have hB : 0 ≤ B := by omega
  have h : (a * b).natAbs ≤ (A * B).natAbs := by
    rw [Int.natAbs_mul, Int.natAbs_mul]
    exact Nat.mul_le_mul (by omega) (by omega)
  have hAB : 0 ≤ A * B := Int.mul_nonneg hA hB
  omega

theorem wt_bound {px py : Int} {e : Pt × Pt} (h1 : Small 1024 e.1) (h2 : Small 1024 e.2) (hp : Small 3000 (px, py)) : -32385152 ≤ wt px py e ∧ wt px py e ≤ 32385152 := by
  obtain ⟨⟨x, y⟩, ⟨z, w⟩⟩ := e
  unfold Small wt at *
  simp only at *
  have a1 := mul_bound (a := x - px) (b := w - py) (A := 4024) (B := 4024) (by omega) (by omega)
  have a2 := mul_bound (a := z - px) (b := y - py) (A := 4024) (B := 4024) (by omega) (by omega)
  omega

theorem dat_bound {px py : Int} {e : Pt × Pt} (h1 : Small 1024 e.1) (h2 : Small 1024 e.2) (hp : Small 3000 (px, py)) : -5048 ≤ dat px e ∧ dat px e ≤ 5048 := by
  obtain ⟨⟨x, y⟩, ⟨z, w⟩⟩ := e
  unfold Small dat at *
  simp only at *
  omega

theorem prod_bound {px py : Int} {e : Pt × Pt} (h1 : Small 1024 e.1) (h2 : Small 1024 e.2) (hp : Small 3000 (px, py)) : -163480247296 ≤ dat px e * wt px py e ∧ dat px e * wt px py e ≤ 163480247296 := by
  have := mul_bound (dat_bound h1 h2 hp) (wt_bound h1 h2 hp)
  omega

/-- what the float sums ask of the data and the weights -/
structure Fine (ds ws : List Int) : Prop where
  len : ds.length = ws.length
  w : ∀ k, (((ws.take k).sum) * 2).natAbs ≤ 2 ^ 52
  one : ∀ v ∈ ws, (v * 2).natAbs ≤ 2 ^ 52
  d : ∀ v ∈ ds, v.natAbs ≤ 2 ^ 52
  p : ∀ k, ((((ds.zip ws).take k).map fun q => q.1 * q.2).sum * 2).natAbs ≤ 2 ^ 52
  po : ∀ q ∈ ds.zip ws, (q.1 * q.2 * 2).natAbs ≤ 2 ^ 52

theorem zip_map {α β γ : Type} (f : α → β) (g : α → γ) (l : List α) : (l.map f).zip (l.map g) = l.map fun x => (f x, g x) := by
  induction l with
  | nil => rfl
  | cons x r ih => simp [ih]

theorem fine_of {px py : Int} {pts : List Pt} (hl : pts.length ≤ 66) (h : ∀ p ∈ pts, Small 1024 p) (hp : Small 3000 (px, py)) : Fine ((edges pts).map (dat px)) ((edges pts).map (wt px py)) := by
  have he : ∀ e ∈ edges pts, Small 1024 e.1 ∧ Small 1024 e.2 := fun e hm => ⟨h _ (edges_mem hm).1, h _ (edges_mem hm).2⟩
  have hlen : (edges pts).length ≤ 66 := by rw [edges_length]; exact hl
  refine ⟨by simp, fun k => ?_, fun v hv => ?_, fun v hv => ?_, fun k => ?_, fun q hq => ?_⟩
  · rw [← List.map_take]
    have := take_bound (k := k) (f := wt px py) (by decide) (fun e hm => wt_bound (he e hm).1 (he e hm).2 hp) hlen
    omega
  · obtain ⟨e, hm, rfl⟩ := List.mem_map.mp hv
    have := wt_bound (he e hm).1 (he e hm).2 hp
    omega
  · obtain ⟨e, hm, rfl⟩ := List.mem_map.mp hv
    have := dat_bound (he e hm).1 (he e hm).2 hp
    omega
  · rw [zip_map, ← List.map_take, List.map_map]
    have := take_bound (k := k) (f := (fun q : Int × Int => q.1 * q.2) ∘ fun e => (dat px e, wt px py e)) (by decide) (fun e hm => prod_bound (he e hm).1 (he e hm).2 hp) hlen
    omega
  · rw [zip_map] at hq
    obtain ⟨e, hm, rfl⟩ := List.mem_map.mp hq
    have := prod_bound (he e hm).1 (he e hm).2 hp
    simp only
    omega

theorem zip_sum (px py : Int) (pts : List Pt) : ((((edges pts).map (dat px)).zip ((edges pts).map (wt px py))).map fun q => q.1 * q.2).sum = top pts := by
  rw [zip_map, List.map_map]
  exact dat_sum px py pts

end Mine
end

section
open PySem PySem.W PyProof.Rows
namespace Mine
set_option maxRecDepth 100000 in
set_option maxHeartbeats 8000000 in
open_top hd for PySem.Challenge.rw_kn0028_01
end Mine
end

section
set_option maxRecDepth 100000
namespace Mine
open PySem PySem.Calls PyProof.Rows
open Sem (wp)

theorem plain_sp_loop : plainId "math.sumprod.loop" = true := by decide +kernel
theorem entry_sp_loop : entryFor table "math.sumprod.loop" = some Builtin.«math.sumprod.loop» := entryFor_of_fast (by kernel_rfl)
theorem kind_sp : builtinKind "math.sumprod" = none := by decide +kernel
theorem plain_sp : plainId "math.sumprod" = true := by decide +kernel
theorem entry_sp : entryFor table "math.sumprod" = some Builtin.«math.sumprod» := entryFor_of_fast (by kernel_rfl)
theorem args_sp (a b : Value) : argsOk "math.sumprod" ⟨[a, b], []⟩ := by unfold argsOk; kernel_rfl
theorem kind_fs : builtinKind "math.fsum" = none := by decide +kernel
theorem plain_fs : plainId "math.fsum" = true := by decide +kernel
theorem entry_fs : entryFor table "math.fsum" = some Builtin.«math.fsum» := entryFor_of_fast (by kernel_rfl)
theorem args_fs (a : Value) : argsOk "math.fsum" ⟨[a], []⟩ := by unfold argsOk; kernel_rfl
theorem plain_fs_loop : plainId "math.fsum.loop" = true := by decide +kernel
theorem entry_fs_loop : entryFor table "math.fsum.loop" = some Builtin.«math.fsum.loop» := entryFor_of_fast (by kernel_rfl)

def zobj (a b c : Int) : Obj := { cls := .type "tuple", data := .seq #[rawInt a, rawInt b, rawInt c] }

def psum (zs : List (Int × Int)) (k : Nat) : Int := ((zs.take k).map fun q => q.1 * q.2).sum
theorem psum_succ {zs : List (Int × Int)} {k : Nat} {q : Int × Int} (h : zs[k]? = some q) : psum zs (k + 1) = psum zs k + q.1 * q.2 := by
  unfold psum
  rw [List.take_add_one, h]
  simp
theorem psum_zero (zs : List (Int × Int)) : psum zs 0 = 0 := by simp [psum]
theorem psum_all {zs : List (Int × Int)} : psum zs zs.length = (zs.map fun q => q.1 * q.2).sum := by unfold psum; rw [List.take_length]

section
variable {prog : Program} {w : World} {A : Around} {R : Result → Shared → Prop} {I J : Addr} {fp wr gp gr : List Addr} {n : Nat} {P P' : Nat → Value → Prop} {St St' : Nat → Heap → Prop}

theorem fits_ok {i : Int} (h : i.natAbs ≤ 2 ^ 52) : (decide (-(2 ^ 63) ≤ i) && decide (i ≤ Builtin.Math.maxSsize)) = true := by
  simp only [Bool.and_eq_true, decide_eq_true_eq]
  have : Builtin.Math.maxSsize = 2 ^ 63 - 1 := by decide
  rw [this]
  omega

/-- two walks that do not touch each other -/
structure Two (prog : Program) (w : World) (A : Around) (I J : Addr) (fp wr gp gr : List Addr) (n : Nat) (P P' : Nat → Value → Prop) (St St' : Nat → Heap → Prop) : Prop where
  p : Walks prog w A I fp wr n P St
  q : Walks prog w A J gp gr n P' St'
  pq : ∀ b ∈ gp, b ∉ wr
  qp : ∀ b ∈ fp, b ∉ gr
  pl : ∀ i h, St i h → ∀ b ∈ wr, b < h.objs.size
  ql : ∀ i h, St' i h → ∀ b ∈ gr, b < h.objs.size

theorem sp_ints (W : Two prog w A.in1 I J fp wr gp gr n P P' St St') {zs : List (Int × Int)} (hn : zs.length = n) (hP : ∀ i v, P i v → ∃ q t, zs[i]? = some q ∧ v = .int q.1 t) (hP' : ∀ i v, P' i v → ∃ q t, zs[i]? = some q ∧ v = .int q.2 t)
    (h1 : ∀ q ∈ zs, q.1.natAbs ≤ 2 ^ 52 ∧ q.2.natAbs ≤ 2 ^ 52 ∧ (q.1 * q.2).natAbs ≤ 2 ^ 52) (h2 : ∀ k, (psum zs k).natAbs ≤ 2 ^ 52) {T : Addr} (hTp : T ∉ wr) (hTq : T ∉ gr) {z : Int} :
    ∀ (k i : Nat) (s : Shared) (t0 : Tok) (used : Bool), n - i = k → i ≤ n → St i s.heap → St' i s.heap → s.heap.get? T = some (zobj z z z) → (used = false → i = 0) →
    (∀ h' tk t', (∀ b o, b ∉ wr → b ∉ gr → s.heap.get? b = some o → h'.get? b = some o) → R (.ok (.ret (.int (psum zs n) t'))) { s with heap := h', toks := tk }) →
    codeAny (model prog w) A (.builtin "math.sumprod.loop" ⟨[.ref I, .ref J, .int 0 t0, .bool true, rawInt (psum zs i), .bool used, .bool true, .ref T, .bool false], []⟩) R s := by
  intro k
  induction k with
  | zero =>
    intro i s t0 used hk hi st st' hT hu hR
    have hin : i = n := by omega
    subst hin
    refine codeAny_builtin entry_sp_loop ?_
    rw [Around.under_plainId plain_sp_loop _]
    unfold Builtin.«math.sumprod.loop»
    dsimp only [rawInt]
    refine wpAny_bind (wpAny_seqItems hT rfl ?_)
    show wpAny _ A.in1 (pyNext (.ref I) >>= _) _ _ s
    refine wpAny_bind (W.p.done s _ _ st fun h₁ tk₁ k₁ => ?_)
    have st₁ : St' i h₁ := W.q.frame _ _ _ st' fun b hb o e => k₁ b o (W.pq b hb) e
    show wpAny _ A.in1 (holding _ (pyNext (.ref J)) >>= _) _ _ _
    refine wpAny_bind (wpAny_holding (W.q.done _ _ _ st₁ fun h₂ tk₂ k₂ => ?_))
    have hkeep : ∀ b o, b ∉ wr → b ∉ gr → s.heap.get? b = some o → h₂.get? b = some o := fun b o n1 n2 e => k₂ b o n2 (k₁ b o n1 e)
    cases used with
    | true =>
      refine wpAny_bind (wpAny_rule ?_)
      show wpAny _ A.in1 (mkInt _ >>= _) _ _ _
      refine wpAny_bind (wpAny_mkInt ?_)
      refine wpAny_bind (wpAny_holding (add_int ?_))
      refine wpAny_bind (wpAny_rule ?_)
      rw [Int.zero_add]
      exact wpAny_pure (hR _ _ _ hkeep)
    | false =>
      refine wpAny_bind (wpAny_rule ?_)
      refine wpAny_bind (wpAny_rule ?_)
      have h0 := hR h₂ tk₂ t0 hkeep
      rw [hu rfl, psum_zero] at h0
      exact wpAny_pure h0
  | succ k ih =>
    intro i s t0 used hk hi st st' hT hu hR
    have hlt : i < n := by omega
    refine codeAny_builtin entry_sp_loop ?_
    rw [Around.under_plainId plain_sp_loop _]
    unfold Builtin.«math.sumprod.loop»
    dsimp only [rawInt]
    refine wpAny_bind (wpAny_seqItems hT rfl ?_)
    show wpAny _ A.in1 (pyNext (.ref I) >>= _) _ _ s
    refine wpAny_bind (W.p.item i s _ _ hlt st fun v h₁ tk₁ hv st₁ k₁ => ?_)
    have st₁' : St' i h₁ := W.q.frame _ _ _ st' fun b hb o e => k₁ b o (W.pq b hb) e
    show wpAny _ A.in1 (holding _ (pyNext (.ref J)) >>= _) _ _ _
    refine wpAny_bind (wpAny_holding (W.q.item i _ _ _ hlt st₁' fun u h₂ tk₂ hu' st₂' k₂ => ?_))
    have st₂ : St (i + 1) h₂ := W.p.frame _ _ _ st₁ fun b hb o e => k₂ b o (W.qp b hb) e
    obtain ⟨q, t, hq, rfl⟩ := hP i v hv
    obtain ⟨q', t', hq', rfl⟩ := hP' i u hu'
    rw [hq] at hq'
    cases hq'
    have hm := List.mem_of_getElem? hq
    obtain ⟨f1, f2, f3⟩ := h1 q hm
    have f4 := h2 (i + 1)
    rw [psum_succ hq] at f4
    have hkeep : ∀ b o, b ∉ wr → b ∉ gr → s.heap.get? b = some o → h₂.get? b = some o := fun b o n1 n2 e => k₂ b o n2 (k₁ b o n1 e)
    show wpAny _ A.in1 (if _ = true then again _ else _) _ _ _
    rw [if_pos (by rw [fits_ok f1, fits_ok f2, fits_ok f3, fits_ok f4]; rfl)]
    refine wpAny_pure ⟨plainId_quiet plain_sp_loop _, ?_⟩
    have := ih (i + 1) { s with heap := h₂, toks := tk₂ } t0 true (by omega) hlt st₂ st₂' (hkeep T _ hTp hTq hT) (fun e => by cases e) fun h' tk t' hk' => hR h' tk t' fun b o n1 n2 e => hk' b o n1 n2 (hkeep b o n1 n2 e)
    rw [psum_succ hq] at this
    exact this

end
end Mine
end

section
set_option maxRecDepth 100000
namespace Mine
open PySem PySem.Calls PyProof.Rows
open Sem (wp)

section
variable {prog : Program} {w : World} {A : Around} {R : Result → Shared → Prop} {I J : Addr} {fp wr gp gr : List Addr} {n : Nat} {P P' : Nat → Value → Prop} {St St' : Nat → Heap → Prop}

theorem bits_back (c : UInt64) : ((c.toNat : Int)).toNat.toUInt64 = c := by simp

theorem not_over {i : Int} (h : i.natAbs ≤ 2 ^ 53) : ¬ Flt.Over i := by
  have : (2 : Nat) ^ 53 < 2 ^ 1024 - 2 ^ 970 := by decide +kernel
  unfold Flt.Over
  omega

abbrev tobj (t : UInt64 × UInt64 × UInt64) : Obj := zobj t.1.toNat t.2.1.toNat t.2.2.toNat

set_option maxHeartbeats 1000000 in
theorem sp_floats (W : Two prog w A.in1 I J fp wr gp gr n P P' St St') {zs : List (Int × Int)} (hn : zs.length = n) (h0 : 0 < n) (hP : ∀ i v, P i v → ∃ q b t, zs[i]? = some q ∧ v = .float b t ∧ Is b q.1) (hP' : ∀ i v, P' i v → ∃ q b t, zs[i]? = some q ∧ v = .float b t ∧ Is b (2 * q.2))
    (h1 : ∀ q ∈ zs, (q.1 * q.2).natAbs ≤ 2 ^ 52) (h2 : ∀ k, (psum zs k).natAbs ≤ 2 ^ 52) :
    ∀ (k i : Nat) (s : Shared) (T : Addr) (t0 : Tok) (used : Bool) (tr : UInt64 × UInt64 × UInt64), n - i = k → i ≤ n → St i s.heap → St' i s.heap → s.heap.get? T = some (tobj tr) → T ∉ wr → T ∉ gr → (used = false → i = 0) → TIs tr (psum zs i) →
    (∀ h' tk x t', Is x (psum zs n) → (∀ b o, b ∉ wr → b ∉ gr → s.heap.get? b = some o → h'.get? b = some o) → R (.ok (.ret (.float x t'))) { s with heap := h', toks := tk }) →
    codeAny (model prog w) A (.builtin "math.sumprod.loop" ⟨[.ref I, .ref J, .int 0 t0, .bool (!used), rawInt 0, .bool false, .bool true, .ref T, .bool used], []⟩) R s := by
  intro k
  induction k with
  | zero =>
    intro i s T t0 used tr hk hi st st' hT hTp hTq hu htr hR
    have hin : i = n := by omega
    subst hin
    cases used with
    | false => exact absurd (hu rfl) (by omega)
    | true =>
    refine codeAny_builtin entry_sp_loop ?_
    rw [Around.under_plainId plain_sp_loop _]
    unfold Builtin.«math.sumprod.loop»
    dsimp only [rawInt]
    refine wpAny_bind (wpAny_seqItems hT rfl ?_)
    show wpAny _ A.in1 (pyNext (.ref I) >>= _) _ _ s
    refine wpAny_bind (W.p.done s _ _ st fun h₁ tk₁ k₁ => ?_)
    have st₁ : St' i h₁ := W.q.frame _ _ _ st' fun b hb o e => k₁ b o (W.pq b hb) e
    show wpAny _ A.in1 (holding _ (pyNext (.ref J)) >>= _) _ _ _
    refine wpAny_bind (wpAny_holding (W.q.done _ _ _ st₁ fun h₂ tk₂ k₂ => ?_))
    have hkeep : ∀ b o, b ∉ wr → b ∉ gr → s.heap.get? b = some o → h₂.get? b = some o := fun b o n1 n2 e => k₂ b o n2 (k₁ b o n1 e)
    refine wpAny_bind (wpAny_rule ?_)
    show wpAny _ A.in1 (mkFloat (Builtin.Math.tlToFloat (((tr.1.toNat : Int)).toNat.toUInt64, ((tr.2.1.toNat : Int)).toNat.toUInt64, ((tr.2.2.toNat : Int)).toNat.toUInt64)) >>= _) _ _ _
    rw [bits_back, bits_back, bits_back]
    refine wpAny_bind (Flt.wp_mkFloat ?_)
    refine wpAny_bind (wpAny_holding (add_if_fits (by decide) ?_))
    refine wpAny_pure (hR _ _ _ _ ?_ hkeep)
    have := add_is (ofInt_is (n := 0) (by decide)) (tlToFloat_is htr (Nat.le_trans (h2 i) (by decide))) (by rw [Int.mul_zero, Int.zero_add]; exact Nat.le_trans (h2 i) (by decide))
    rw [Int.mul_zero, Int.zero_add] at this
    exact this
  | succ k ih =>
    intro i s T t0 used tr hk hi st st' hT hTp hTq hu htr hR
    have hlt : i < n := by omega
    refine codeAny_builtin entry_sp_loop ?_
    rw [Around.under_plainId plain_sp_loop _]
    unfold Builtin.«math.sumprod.loop»
    dsimp only [rawInt]
    refine wpAny_bind (wpAny_seqItems hT rfl ?_)
    show wpAny _ A.in1 (pyNext (.ref I) >>= _) _ _ s
    refine wpAny_bind (W.p.item i s _ _ hlt st fun v h₁ tk₁ hv st₁ k₁ => ?_)
    have st₁' : St' i h₁ := W.q.frame _ _ _ st' fun b hb o e => k₁ b o (W.pq b hb) e
    show wpAny _ A.in1 (holding _ (pyNext (.ref J)) >>= _) _ _ _
    refine wpAny_bind (wpAny_holding (W.q.item i _ _ _ hlt st₁' fun u h₂ tk₂ hu' st₂' k₂ => ?_))
    have st₂ : St (i + 1) h₂ := W.p.frame _ _ _ st₁ fun b hb o e => k₂ b o (W.qp b hb) e
    obtain ⟨q, x, t, hq, rfl, hx⟩ := hP i v hv
    obtain ⟨q', y, t', hq', rfl, hy⟩ := hP' i u hu'
    rw [hq] at hq'
    cases hq'
    have hm := List.mem_of_getElem? hq
    have f3 := h1 q hm
    have f4 := h2 (i + 1)
    rw [psum_succ hq] at f4
    have hkeep : ∀ b o, b ∉ wr → b ∉ gr → s.heap.get? b = some o → h₂.get? b = some o := fun b o n1 n2 e => k₂ b o n2 (k₁ b o n1 e)
    have hnext := tlFma_is hx hy htr (Nat.le_trans f3 (by decide)) (Nat.le_trans (h2 i) (by decide)) (Nat.le_trans f4 (by decide))
    have fin : ∀ (tk : Nat), wpAny (model prog w) A.in1 (if Float64.isFinite (Builtin.Math.tlFma x y (((tr.1.toNat : Int)).toNat.toUInt64, ((tr.2.1.toNat : Int)).toNat.toUInt64, ((tr.2.2.toNat : Int)).toNat.toUInt64)).1 = true then
        (newTuple [.int ((Builtin.Math.tlFma x y (((tr.1.toNat : Int)).toNat.toUInt64, ((tr.2.1.toNat : Int)).toNat.toUInt64, ((tr.2.2.toNat : Int)).toNat.toUInt64)).1.toNat) 0,
          .int ((Builtin.Math.tlFma x y (((tr.1.toNat : Int)).toNat.toUInt64, ((tr.2.1.toNat : Int)).toNat.toUInt64, ((tr.2.2.toNat : Int)).toNat.toUInt64)).2.1.toNat) 0,
          .int ((Builtin.Math.tlFma x y (((tr.1.toNat : Int)).toNat.toUInt64, ((tr.2.1.toNat : Int)).toNat.toUInt64, ((tr.2.2.toNat : Int)).toNat.toUInt64)).2.2.toNat) 0] >>= fun t =>
          again (.builtin "math.sumprod.loop" { pos := [.ref I, .ref J, .int 0 t0, .bool false, .int 0 0, .bool false, .bool true, t, .bool true] })) else unsupported "never")
        (fun fin s' => match fin with | .done f => R (.ok f) s' | .again c' => c'.quiet = true ∧ codeAny (model prog w) A c' R s') (fun e s' => R (.error e) s') { s with heap := h₂, toks := tk } := by
      intro tk
      rw [bits_back, bits_back, bits_back]
      rw [if_pos (fin_isFinite hnext.1.1)]
      unfold newTuple
      refine wpAny_bind (wpAny_newObj_type ?_ (by show 3 ≤ sizeLine; decide))
      refine wpAny_pure ⟨plainId_quiet plain_sp_loop _, ?_⟩
      have nw : h₂.objs.size ∉ wr := fun hb => Nat.lt_irrefl _ (W.pl _ _ st₂ _ hb)
      have ng : h₂.objs.size ∉ gr := fun hb => Nat.lt_irrefl _ (W.ql _ _ st₂' _ hb)
      refine ih (i + 1) _ h₂.objs.size t0 true _ (by omega) hlt (W.p.frame _ _ _ st₂ fun b _ o e => Heap.get?_push_of_some _ e) (W.q.frame _ _ _ st₂' fun b _ o e => Heap.get?_push_of_some _ e) (Heap.get?_push_size _ rfl) nw ng (fun e => by cases e) ?_ ?_
      · rw [psum_succ hq]
        exact hnext
      · intro h' tk' x' t' hx' hk'
        exact hR h' tk' x' t' hx' fun b o n1 n2 e => hk' b o n1 n2 (Heap.get?_push_of_some _ (hkeep b o n1 n2 e))
    cases used with
    | true =>
      have f := fin tk₂
      rw [bits_back, bits_back, bits_back] at f
      rw [if_pos (fin_isFinite hnext.1.1)] at f
      show wpAny _ A.in1 (if Float64.isFinite (Builtin.Math.tlFma x y (((tr.1.toNat : Int)).toNat.toUInt64, ((tr.2.1.toNat : Int)).toNat.toUInt64, ((tr.2.2.toNat : Int)).toNat.toUInt64)).1 = true then _ else _) _ _ _
      rw [bits_back, bits_back, bits_back]
      rw [if_pos (fin_isFinite hnext.1.1)]
      exact f
    | false =>
      have f := fin tk₂
      rw [bits_back, bits_back, bits_back] at f
      rw [if_pos (fin_isFinite hnext.1.1)] at f
      refine wpAny_bind (wpAny_rule ?_)
      show wpAny _ A.in1 (if Float64.isFinite (Builtin.Math.tlFma x y (((tr.1.toNat : Int)).toNat.toUInt64, ((tr.2.1.toNat : Int)).toNat.toUInt64, ((tr.2.2.toNat : Int)).toNat.toUInt64)).1 = true then _ else _) _ _ _
      rw [bits_back, bits_back, bits_back]
      rw [if_pos (fin_isFinite hnext.1.1)]
      exact f
end
end Mine
end

section
set_option maxRecDepth 100000
namespace Mine
open PySem PySem.Calls PyProof.Rows
open Sem (wp)

def bobj (ps : List UInt64) : Obj := { cls := .type "tuple", data := .seq (ps.map fun x => rawInt x.toNat).toArray }

theorem bits_round (ps : List UInt64) : ((ps.map fun x => rawInt x.toNat).map fun v => match v with | .int i _ => i.toNat.toUInt64 | _ => 0) = ps := by
  induction ps with
  | nil => rfl
  | cons x r ih =>
    simp only [List.map_cons, rawInt, List.cons.injEq]
    exact ⟨bits_back x, ih⟩

/-- an int, or the float that it is -/
def NumVal (v : Value) (q : Int) : Prop := (∃ t, v = .int q t) ∨ ∃ b t, v = .float b t ∧ Is b (2 * q)

section
variable {prog : Program} {w : World} {A : Around} {E : Value → Shared → Prop} {s : Shared}

theorem realArg_num {v : Value} {q : Int} {Q : UInt64 → Shared → Prop} (hA : A.handled = none) (hv : NumVal v q) (hq : (q * 2).natAbs ≤ 2 ^ 52) (h : ∀ x tk, Is x (2 * q) → Q x { s with toks := tk }) :
    wpAny (model prog w) A (Builtin.Math.realArg v) Q E s := by
  rcases hv with ⟨t, rfl⟩ | ⟨b, t, rfl, hb⟩
  · exact Flt.realArg_int hA (fun o => absurd o (not_over (by omega))) fun _ => h _ _ (ofInt_is (by omega))
  · exact wpAny_bind (wpAny_pure (wpAny_pure (h b s.toks hb)))

theorem wp_packBits {ps : List UInt64} {Q : Value → Shared → Prop} (hl : ps.length ≤ 3) (h : Q (.ref s.heap.objs.size) { s with heap := s.heap.push (bobj ps) }) :
    wpAny (model prog w) A (newTuple (ps.map fun x => rawInt x.toNat)) Q E s := by
  unfold newTuple
  exact wpAny_newObj_type h (by show (ps.map fun x => rawInt x.toNat).toArray.size ≤ sizeLine; rw [List.size_toArray, List.length_map]; exact Nat.le_trans hl (by decide))
end

section
variable {prog : Program} {w : World} {A : Around} {R : Result → Shared → Prop} {I : Addr} {fp wr : List Addr} {n : Nat} {P : Nat → Value → Prop} {St : Nat → Heap → Prop}

set_option maxHeartbeats 1000000 in
theorem fs_loop (hA : A.handled = none) (W : Walks prog w A.in1 I fp wr n P St) (hpl : ∀ i h, St i h → ∀ b ∈ wr, b < h.objs.size) {ws : List Int} (hn : ws.length = n) (hP : ∀ i v, P i v → ∃ q, ws[i]? = some q ∧ NumVal v q)
    (h1 : ∀ q ∈ ws, (q * 2).natAbs ≤ 2 ^ 52) (h2 : ∀ k, ((ws.take k).sum * 2).natAbs ≤ 2 ^ 52) {Z : Addr} (hZ : Z ∉ wr) :
    ∀ (k i : Nat) (s : Shared) (T : Addr) (ps : List UInt64), n - i = k → i ≤ n → St i s.heap → s.heap.get? T = some (bobj ps) → T ∉ wr → s.heap.get? Z = some (bobj [Float64.zero false, Float64.zero false]) → PIs ps (2 * (ws.take i).sum) →
    (∀ h' tk x t', Is x (2 * ws.sum) → (∀ b o, b ∉ wr → s.heap.get? b = some o → h'.get? b = some o) → R (.ok (.ret (.float x t'))) { s with heap := h', toks := tk }) →
    codeAny (model prog w) A (.builtin "math.fsum.loop" ⟨[.ref I, .ref T, .ref Z], []⟩) R s := by
  intro k
  induction k with
  | zero =>
    intro i s T ps hk hi st hT hTw hZ' hps hR
    have hin : i = n := by omega
    subst hin
    refine codeAny_builtin entry_fs_loop ?_
    rw [Around.under_plainId plain_fs_loop _]
    unfold Builtin.«math.fsum.loop»
    dsimp only
    refine wpAny_bind (wpAny_bind (wpAny_seqItems hT rfl (wpAny_pure ?_)))
    refine wpAny_bind (wpAny_bind (wpAny_seqItems hZ' rfl (wpAny_pure ?_)))
    show wpAny _ A.in1 (pyNext (.ref I) >>= _) _ _ s
    refine wpAny_bind (W.done s _ _ st fun h₁ tk₁ k₁ => ?_)
    have e0 : ((Option.getD (some (List.map (fun x : UInt64 => rawInt x.toNat) ps).toArray) #[]).toList.map fun v => match v with | .int i _ => i.toNat.toUInt64 | _ => 0) = ps := bits_round ps
    show wpAny _ A.in1 (if (!Float64.isZero (Float64.zero false)) = true then _ else mkFloat (Float64.fsumEnd ((Option.getD (some (List.map (fun x : UInt64 => rawInt x.toNat) ps).toArray) #[]).toList.map fun v => match v with | .int i _ => i.toNat.toUInt64 | _ => 0)) >>= _) _ _ _
    rw [if_neg (by rw [isZero_iff (is_zero false)]; decide), e0]
    refine wpAny_bind (Flt.wp_mkFloat (wpAny_pure (hR _ _ _ _ ?_ k₁)))
    have := fsumEnd_is hps
    rw [← hn, List.take_length] at this
    exact this
  | succ k ih =>
    intro i s T ps hk hi st hT hTw hZ' hps hR
    have hlt : i < n := by omega
    refine codeAny_builtin entry_fs_loop ?_
    rw [Around.under_plainId plain_fs_loop _]
    unfold Builtin.«math.fsum.loop»
    dsimp only
    refine wpAny_bind (wpAny_bind (wpAny_seqItems hT rfl (wpAny_pure ?_)))
    refine wpAny_bind (wpAny_bind (wpAny_seqItems hZ' rfl (wpAny_pure ?_)))
    show wpAny _ A.in1 (pyNext (.ref I) >>= _) _ _ s
    refine wpAny_bind (W.item i s _ _ hlt st fun v h₁ tk₁ hv st₁ k₁ => ?_)
    obtain ⟨q, hq, hv⟩ := hP i v hv
    have hm := List.mem_of_getElem? hq
    have f1 := h1 q hm
    have f2 := h2 i
    have f3 := h2 (i + 1)
    have e1 : (ws.take (i + 1)).sum = (ws.take i).sum + q := by rw [List.take_add_one, hq]; simp
    rw [e1] at f3
    show wpAny _ A.in1 (holding [v] (Builtin.Math.realArg v) >>= _) _ _ _
    refine wpAny_bind (wpAny_holding (realArg_num hA hv f1 fun x tk hx => ?_))
    have e0 : ((Option.getD (some (List.map (fun x : UInt64 => rawInt x.toNat) ps).toArray) #[]).toList.map fun v => match v with | .int i _ => i.toNat.toUInt64 | _ => 0) = ps := bits_round ps
    obtain ⟨g1, g2⟩ := fsum_step hps hx (by omega) (by omega) (by omega)
    show wpAny _ A.in1 (if Float64.isFinite (Float64.fsumAdd ((Option.getD (some (List.map (fun x : UInt64 => rawInt x.toNat) ps).toArray) #[]).toList.map fun v => match v with | .int i _ => i.toNat.toUInt64 | _ => 0) x).2 = true then newTuple ((if Float64.isZero (Float64.fsumAdd ((Option.getD (some (List.map (fun x : UInt64 => rawInt x.toNat) ps).toArray) #[]).toList.map fun v => match v with | .int i _ => i.toNat.toUInt64 | _ => 0) x).2 then (Float64.fsumAdd ((Option.getD (some (List.map (fun x : UInt64 => rawInt x.toNat) ps).toArray) #[]).toList.map fun v => match v with | .int i _ => i.toNat.toUInt64 | _ => 0) x).1 else (Float64.fsumAdd ((Option.getD (some (List.map (fun x : UInt64 => rawInt x.toNat) ps).toArray) #[]).toList.map fun v => match v with | .int i _ => i.toNat.toUInt64 | _ => 0) x).1 ++ [(Float64.fsumAdd ((Option.getD (some (List.map (fun x : UInt64 => rawInt x.toNat) ps).toArray) #[]).toList.map fun v => match v with | .int i _ => i.toNat.toUInt64 | _ => 0) x).2]).map fun x => rawInt x.toNat) >>= _ else _) _ _ _
    rw [e0, if_pos g1]
    have hlen : (if Float64.isZero (Float64.fsumAdd ps x).2 then (Float64.fsumAdd ps x).1 else (Float64.fsumAdd ps x).1 ++ [(Float64.fsumAdd ps x).2]).length ≤ 3 := by
      rcases g2 with ⟨e, _⟩ | ⟨p, e, _⟩ <;> rw [e] <;> simp
    refine wpAny_bind (wp_packBits hlen ?_)
    refine wpAny_pure ⟨plainId_quiet plain_fs_loop _, ?_⟩
    have nw : h₁.objs.size ∉ wr := fun hb => Nat.lt_irrefl _ (hpl _ _ st₁ _ hb)
    refine ih (i + 1) _ h₁.objs.size _ (by omega) hlt (W.frame _ _ _ st₁ fun b _ o e => Heap.get?_push_of_some _ e) (Heap.get?_push_size _ rfl) nw (Heap.get?_push_of_some _ (k₁ _ _ hZ hZ')) ?_ ?_
    · rw [e1, Int.mul_add]
      exact g2
    · intro h' tk' x' t' hx' hk'
      exact hR h' tk' x' t' hx' fun b o n1 e => hk' b o n1 (Heap.get?_push_of_some _ (k₁ b o n1 e))
end
end Mine
end

section
set_option maxRecDepth 100000
namespace Mine
open PySem PySem.Calls PyProof.Rows
open Sem (wp)

/-- a list or a tuple of these values -/
def SeqAt (h : Heap) (a : Addr) (vs : List Value) : Prop := h.IsList a vs.toArray ∨ h.IsTuple a vs.toArray

theorem SeqAt.lt {h : Heap} {a : Addr} {vs : List Value} (x : SeqAt h a vs) : a < h.objs.size := by
  rcases x with ⟨o, ho, _⟩ | ⟨o, ho, _⟩ <;> exact Heap.lt_size ho
theorem SeqAt.keeps {h h' : Heap} {a : Addr} {vs : List Value} (x : SeqAt h a vs) (hk : ∀ b o, h.get? b = some o → h'.get? b = some o) : SeqAt h' a vs := by
  rcases x with ⟨o, ho, r⟩ | ⟨o, ho, r⟩
  · exact .inl ⟨o, hk _ _ ho, r⟩
  · exact .inr ⟨o, hk _ _ ho, r⟩

structure Iter (prog : Program) (w : World) (A : Around) (I a : Addr) (vs : List Value) (St : Nat → Heap → Prop) : Prop where
  W : Walks prog w A I [I, a] [I] vs.length (fun i v => vs[i]? = some v) St
  pl : ∀ i h, St i h → I < h.objs.size

section
variable {prog : Program} {w : World} {A : Around} {E : Value → Shared → Prop} {s : Shared}

theorem iter_seq {a : Addr} {vs : List Value} {Q : Value → Shared → Prop} (h : SeqAt s.heap a vs)
    (hQ : ∀ St o, (∀ A' : Around, A'.handled = none → Iter prog w A' s.heap.objs.size a vs St) → St 0 (s.heap.push o) → Q (.ref s.heap.objs.size) { s with heap := s.heap.push o }) : wpAny (model prog w) A (pyIter (.ref a)) Q E s := by
  have hne : a ≠ s.heap.objs.size := Nat.ne_of_lt h.lt
  rcases h with hl | ht
  · refine wpAny_pyIter_list hl (hQ (fun i h => h.IsListIter s.heap.objs.size a i ∧ h.IsList a vs.toArray) _ (fun A' hA' => ⟨?_, ?_⟩) ?_)
    · have W := Walks.list (prog := prog) (w := w) hA' s.heap.objs.size a hne vs.toArray
      simpa using W
    · rintro i h ⟨⟨o, ho, _⟩, _⟩
      exact Heap.lt_size ho
    · exact ⟨⟨_, Heap.get?_push_size _ rfl, rfl, rfl⟩, hl.push _⟩
  · refine iter_tuple (by exact ht) (hQ (fun i h => h.IsTupleIter s.heap.objs.size a i ∧ h.IsTuple a vs.toArray) _ (fun A' hA' => ⟨?_, ?_⟩) ?_)
    · have W := Walks.tuple (prog := prog) (w := w) hA' s.heap.objs.size a hne vs.toArray
      simpa using W
    · rintro i h ⟨⟨o, ho, _⟩, _⟩
      exact Heap.lt_size ho
    · exact ⟨⟨_, Heap.get?_push_size _ rfl, rfl, rfl⟩, ht.at fun o e => Heap.get?_push_of_some _ e⟩

theorem call_fsum {a : Addr} {vs : List Value} {ws : List Int} {Q : Value → Shared → Prop} (hA : A.handled = none) (h : SeqAt s.heap a vs) (hn : ws.length = vs.length) (hv : ∀ (i : Nat) (v : Value), vs[i]? = some v → ∃ q, ws[i]? = some q ∧ NumVal v q)
    (h1 : ∀ q ∈ ws, (q * 2).natAbs ≤ 2 ^ 52) (h2 : ∀ k, ((ws.take k).sum * 2).natAbs ≤ 2 ^ 52)
    (hQ : ∀ h' tk x t', Is x (2 * ws.sum) → (∀ b o, s.heap.get? b = some o → h'.get? b = some o) → Q (.float x t') { s with heap := h', toks := tk }) :
    wpAny (model prog w) A (call (.builtin "math.fsum") [.ref a]) Q E s := by
  refine call_function_tree kind_fs plain_fs entry_fs (args_fs _) ?_
  unfold Builtin.«math.fsum»
  refine wpAny_bind (wpAny_bind (wpAny_pure (wpAny_pure ?_)))
  refine wpAny_bind (iter_seq h fun St o W st => ?_)
  have W₁ := W A.in1 hA
  show wpAny _ A.in1 (newTuple (([] : List UInt64).map fun x => rawInt x.toNat) >>= _) _ _ _
  refine wpAny_bind (wp_packBits (by decide) ?_)
  show wpAny _ A.in1 (newTuple (([Float64.zero false, Float64.zero false] : List UInt64).map fun x => rawInt x.toNat) >>= _) _ _ _
  refine wpAny_bind (wp_packBits (by decide) ?_)
  refine wpAny_pure ⟨plainId_quiet plain_fs_loop _, ?_⟩
  have z1 : (s.heap.push o).objs.size = s.heap.objs.size + 1 := Heap.size_push _ _
  have z2 : ((s.heap.push o).push (bobj [])).objs.size = s.heap.objs.size + 2 := by rw [Heap.size_push, z1]
  refine fs_loop hA W₁.W (fun i h hi b hb => by rw [List.mem_singleton.mp hb]; exact W₁.pl i h hi) hn hv h1 h2 (Z := ((s.heap.push o).push (bobj [])).objs.size) ?_ ws.length 0 _ (s.heap.push o).objs.size [] ?_ (Nat.zero_le _) ?_ ?_ ?_ ?_ ?_ ?_
  · rw [List.mem_singleton, z2]; intro e; have e' : (s.heap.objs.size + 2 : Nat) = s.heap.objs.size := e; omega
  · rw [hn]; rfl
  · exact W₁.W.frame _ _ _ st fun b _ o' e => Heap.get?_push_of_some _ (Heap.get?_push_of_some _ e)
  · exact Heap.get?_push_of_some _ (Heap.get?_push_size _ rfl)
  · rw [List.mem_singleton, z1]; intro e; have e' : (s.heap.objs.size + 1 : Nat) = s.heap.objs.size := e; omega
  · exact Heap.get?_push_size _ rfl
  · exact .inl ⟨rfl, by simp⟩
  · intro h' tk x t' hx hk
    refine hQ h' tk x t' hx fun b o' e => hk b o' ?_ (Heap.get?_push_of_some _ (Heap.get?_push_of_some _ (Heap.get?_push_of_some _ e)))
    rw [List.mem_singleton]
    exact Nat.ne_of_lt (Heap.lt_size e)

theorem two_seq {A' : Around} {a b : Addr} {vs us : List Value} {St St' : Nat → Heap → Prop} {o : Obj} (hl : us.length = vs.length) (ha : a < s.heap.objs.size) (hb : b < s.heap.objs.size)
    (W : Iter prog w A' s.heap.objs.size a vs St) (W' : Iter prog w A' (s.heap.push o).objs.size b us St') :
    Two prog w A' s.heap.objs.size (s.heap.push o).objs.size [s.heap.objs.size, a] [s.heap.objs.size] [(s.heap.push o).objs.size, b] [(s.heap.push o).objs.size] vs.length (fun i v => vs[i]? = some v) (fun i v => us[i]? = some v) St St' := by
  have z1 : (s.heap.push o).objs.size = s.heap.objs.size + 1 := Heap.size_push _ _
  refine ⟨W.W, hl ▸ W'.W, ?_, ?_, ?_, ?_⟩
  · intro c hc
    rw [List.mem_singleton]
    simp only [List.mem_cons, List.not_mem_nil, or_false] at hc
    rcases hc with rfl | rfl
    · rw [z1]; exact Nat.succ_ne_self _
    · exact Nat.ne_of_lt hb
  · intro c hc
    rw [List.mem_singleton, z1]
    simp only [List.mem_cons, List.not_mem_nil, or_false] at hc
    rcases hc with rfl | rfl
    · exact Nat.ne_of_lt (Nat.lt_succ_self _)
    · exact Nat.ne_of_lt (Nat.lt_succ_of_lt ha)
  · intro i h hi c hc
    rw [List.mem_singleton.mp hc]; exact W.pl i h hi
  · intro i h hi c hc
    rw [List.mem_singleton.mp hc]; exact W'.pl i h hi

theorem call_sp {a b : Addr} {vs us : List Value} {Q : Value → Shared → Prop} (hA : A.handled = none) (ha : SeqAt s.heap a vs) (hb : SeqAt s.heap b us) (hl : us.length = vs.length)
    (loop : ∀ (h₂ : Heap) (tk : Nat) (I J T : Addr) (t0 : Tok) (St St' : Nat → Heap → Prop), Two prog w A.in1 I J [I, a] [I] [J, b] [J] vs.length (fun i v => vs[i]? = some v) (fun i v => us[i]? = some v) St St' → T ∉ [I] → T ∉ [J] → St 0 h₂ → St' 0 h₂ →
      h₂.get? T = some (zobj (Float64.zero false).toNat (Float64.zero false).toNat (Float64.zero false).toNat) → (∀ c o, s.heap.get? c = some o → c ∉ [I] ∧ c ∉ [J] ∧ h₂.get? c = some o) →
      codeAny (model prog w) A (.builtin "math.sumprod.loop" ⟨[.ref I, .ref J, .int 0 t0, .bool true, rawInt 0, .bool false, .bool true, .ref T, .bool false], []⟩) (fun r s' => match r with | .ok (.ret v) => Q v s' | .ok _ => False | .error e => E e s') { s with heap := h₂, toks := tk }) :
    wpAny (model prog w) A (call (.builtin "math.sumprod") [.ref a, .ref b]) Q E s := by
  refine call_function_tree kind_sp plain_sp entry_sp (args_sp _ _) ?_
  unfold Builtin.«math.sumprod»
  refine wpAny_bind (wpAny_bind (wpAny_pure (wpAny_bind (wpAny_pure (wpAny_pure ?_)))))
  refine wpAny_bind (iter_seq ha fun St o W st => ?_)
  have z1 : (s.heap.push o).objs.size = s.heap.objs.size + 1 := Heap.size_push _ _
  refine wpAny_bind (wpAny_holding (iter_seq (hb.keeps fun c o' e => Heap.get?_push_of_some _ e) fun St' o₂ W' st' => ?_))
  have z2 : ((s.heap.push o).push o₂).objs.size = s.heap.objs.size + 2 := by rw [Heap.size_push, z1]
  refine wpAny_bind (wpAny_mkInt ?_)
  unfold newTuple
  refine wpAny_bind (wpAny_newObj_type ?_ (by show 3 ≤ sizeLine; decide))
  refine wpAny_pure ⟨plainId_quiet plain_sp_loop _, ?_⟩
  refine loop _ _ s.heap.objs.size (s.heap.push o).objs.size _ _ St St' (two_seq hl ha.lt hb.lt (W _ hA) (W' _ hA)) ?_ ?_ ?_ ?_ (Heap.get?_push_size _ rfl) ?_
  · rw [List.mem_singleton, z2]; intro e; have e' : (s.heap.objs.size + 2 : Nat) = s.heap.objs.size := e; omega
  · rw [List.mem_singleton, z2, z1]; intro e; have e' : (s.heap.objs.size + 2 : Nat) = s.heap.objs.size + 1 := e; omega
  · exact (W _ hA).W.frame _ _ _ st fun c _ o' e => Heap.get?_push_of_some _ (Heap.get?_push_of_some _ e)
  · exact (W' _ hA).W.frame _ _ _ st' fun c _ o' e => Heap.get?_push_of_some _ e
  · intro c o' e
    have := Heap.lt_size e
    refine ⟨?_, ?_, Heap.get?_push_of_some _ (Heap.get?_push_of_some _ (Heap.get?_push_of_some _ e))⟩
    · rw [List.mem_singleton]; exact Nat.ne_of_lt this
    · rw [List.mem_singleton, z1]; exact Nat.ne_of_lt (Nat.lt_succ_of_lt this)

theorem call_sp_ints {a b : Addr} {vs us : List Value} {zs : List (Int × Int)} {Q : Value → Shared → Prop} (hA : A.handled = none) (ha : SeqAt s.heap a vs) (hb : SeqAt s.heap b us) (hl : us.length = vs.length) (hn : zs.length = vs.length)
    (hP : ∀ (i : Nat) (v : Value), vs[i]? = some v → ∃ q t, zs[i]? = some q ∧ v = .int q.1 t) (hP' : ∀ (i : Nat) (v : Value), us[i]? = some v → ∃ q t, zs[i]? = some q ∧ v = .int q.2 t)
    (h1 : ∀ q ∈ zs, q.1.natAbs ≤ 2 ^ 52 ∧ q.2.natAbs ≤ 2 ^ 52 ∧ (q.1 * q.2).natAbs ≤ 2 ^ 52) (h2 : ∀ k, (psum zs k).natAbs ≤ 2 ^ 52)
    (hQ : ∀ h' tk t', (∀ c o, s.heap.get? c = some o → h'.get? c = some o) → Q (.int (zs.map fun q => q.1 * q.2).sum t') { s with heap := h', toks := tk }) :
    wpAny (model prog w) A (call (.builtin "math.sumprod") [.ref a, .ref b]) Q E s := by
  refine call_sp hA ha hb hl fun h₂ tk I J T t0 St St' W tI tJ st st' hT hk => ?_
  have := sp_ints (R := fun r s' => match r with | .ok (.ret v) => Q v s' | .ok _ => False | .error e => E e s') (A := A) W hn hP hP' h1 h2 tI tJ vs.length 0 { s with heap := h₂, toks := tk } t0 false rfl (Nat.zero_le _) st st' hT (fun _ => rfl) ?_
  · rw [psum_zero] at this
    exact this
  · intro h' tk' t' hk'
    rw [← hn, psum_all]
    exact hQ h' tk' t' fun c o e => hk' c o (hk c o e).1 (hk c o e).2.1 (hk c o e).2.2

theorem call_sp_floats {a b : Addr} {vs us : List Value} {zs : List (Int × Int)} {Q : Value → Shared → Prop} (hA : A.handled = none) (ha : SeqAt s.heap a vs) (hb : SeqAt s.heap b us) (hl : us.length = vs.length) (hn : zs.length = vs.length) (h0 : 0 < vs.length)
    (hP : ∀ (i : Nat) (v : Value), vs[i]? = some v → ∃ q x t, zs[i]? = some q ∧ v = .float x t ∧ Is x q.1) (hP' : ∀ (i : Nat) (v : Value), us[i]? = some v → ∃ q x t, zs[i]? = some q ∧ v = .float x t ∧ Is x (2 * q.2))
    (h1 : ∀ q ∈ zs, (q.1 * q.2).natAbs ≤ 2 ^ 52) (h2 : ∀ k, (psum zs k).natAbs ≤ 2 ^ 52)
    (hQ : ∀ h' tk x t', Is x (zs.map fun q => q.1 * q.2).sum → (∀ c o, s.heap.get? c = some o → h'.get? c = some o) → Q (.float x t') { s with heap := h', toks := tk }) :
    wpAny (model prog w) A (call (.builtin "math.sumprod") [.ref a, .ref b]) Q E s := by
  refine call_sp hA ha hb hl fun h₂ tk I J T t0 St St' W tI tJ st st' hT hk => ?_
  have := sp_floats (R := fun r s' => match r with | .ok (.ret v) => Q v s' | .ok _ => False | .error e => E e s') (A := A) W hn h0 hP hP' h1 h2 vs.length 0 { s with heap := h₂, toks := tk } T t0 false (Float64.zero false, Float64.zero false, Float64.zero false) rfl (Nat.zero_le _) st st' hT tI tJ (fun _ => rfl) ?_ ?_
  · exact this
  · rw [psum_zero]
    exact ⟨is_zero _, is_zero _, is_zero _⟩
  · intro h' tk' x t' hx hk'
    rw [← hn, psum_all] at hx
    exact hQ h' tk' x t' hx fun c o e => hk' c o (hk c o e).1 (hk c o e).2.1 (hk c o e).2.2
end
end Mine
end

section
set_option maxRecDepth 100000
set_option linter.unusedVariables false
namespace Mine
open PySem PySem.Calls PyProof.Rows PySem.W

/-- what stands behind the top -/
structure Gd (w : World) (p : Program) (loose : List Str) (mg mb : Str → Option Value) (h : Heap) : Prop where
  K : (hd.heap_39 w.params).In h
  T : TopRead p loose mg mb h

/-- nothing of the one heap is lost in the other -/
abbrev Kp (h h' : Heap) : Prop := ∀ b o, h.get? b = some o → h'.get? b = some o
theorem Kp.refl (h : Heap) : Kp h h := fun _ _ e => e
theorem Kp.trans {a b c : Heap} (x : Kp a b) (y : Kp b c) : Kp a c := fun i o e => y i o (x i o e)
theorem Kp.push (h : Heap) (o : Obj) : Kp h (h.push o) := fun _ _ e => Heap.get?_push_of_some _ e

section
variable {w : World} {p : Program} {loose : List Str} {mg mb : Str → Option Value} {h h' : Heap}
theorem Gd.keeps (G : Gd w p loose mg mb h) (hk : Kp h h') : Gd w p loose mg mb h' := ⟨G.K.keeps hk, G.T.keeps hk⟩
end

abbrev upd (m : Str → Option Value) (x : Str) (v : Value) : Str → Option Value := fun y => if y = x then some v else m y

local macro_rules | `(tactic| walk_at "mget") => `(tactic| (repeat (first | assumption | exact if_pos rfl | refine (if_neg (by decide)).trans ?_)))

section
variable {M : Model} {A : Around} {E : Value → Shared → Prop} {s : Shared} {env : Env} {Q : Value → Shared → Prop}
variable {w : World} {p : Program} {loose : List Str} {mg mb : Str → Option Value}

theorem ldl {x : Str} {pos : Pos} {m : Str → Option Value} {v : Value} (hn : s.heap.Ns env.locals m) (hv : m x = some v) (h : Q v s) (hk : env.scope.kind = .function := by rfl) (hl : env.kindOf x = some .local := by rfl) (hd : (x == ("__debug__" : Str)) = false := by decide) :
    wpAny M A (eval (.Name x pos) env) Q E s := wpAny_Name (wpAny_loadName_local hk hl hn hv h) hd

theorem ldg {x : Str} {pos : Pos} {v : Value} (G : Gd w p loose mg mb s.heap) (e : nsIn (hd.heap_39 w.params) mainGlobals x = some (some v)) (h : Q v s) (hk : env.scope.kind = .function := by rfl) (hg : env.globals = mainGlobals := by rfl) (hx : env.kindOf x = some .globalImplicit := by rfl) (hd : (x == ("__debug__" : Str)) = false := by decide) :
    wpAny M A (eval (.Name x pos) env) Q E s :=
  Name_function_global hk hx (loadGlobal_global (by rw [hg]; exact G.T.g) (mg_of G.K G.T.g e) h) hd

theorem ldb {x : Str} {pos : Pos} {v : Value} (G : Gd w p loose mg mb s.heap) (e : nsIn (hd.heap_39 w.params) mainGlobals x = some none) (hv : bootBuiltins x = some v) (h : Q v s) (hn : x ≠ "__name__" := by decide +kernel) (hk : env.scope.kind = .function := by rfl) (hg : env.globals = mainGlobals := by rfl) (hb : env.builtins = builtinsNs := by rfl)
    (hx : env.kindOf x = some .globalImplicit := by rfl) (hd : (x == ("__debug__" : Str)) = false := by decide) :
    wpAny M A (eval (.Name x pos) env) Q E s :=
  Name_function_global hk hx (loadGlobal_builtin (by rw [hg]; exact G.T.g) (mg_none_of G.K G.T.g e) (by rw [hb]; exact G.T.b) ((G.T.builtins x hn).trans hv) h) hd

/-- storing a local name -/
theorem stl {x : Str} {v : Value} {m : Str → Option Value} {Q : Unit → Shared → Prop} (hn : s.heap.Ns env.locals m) (h : ∀ h', h'.Ns env.locals (upd m x v) → Heap.SameBut env.locals s.heap h' → Q () { s with heap := h', toks := s.toks + 1 })
    (hl : env.kindOf x = some .local := by rfl) (hp : (env.scope.kind == .class || (env.scope.kind == .module && env.locals != env.globals)) = false := by rfl) : wpAny M A (storeName env x v) Q E s :=
  wpAny_storeName_local hl hn h hp

theorem never {α : Type} {t : Sem α} {Q : α → Shared → Prop} (h : wpAny M A t Q (fun _ _ => False) s) : wpAny M A t Q E s := wpAny_mono h (fun _ _ x => x) fun _ _ x => x.elim
end

/-- the expression is this int, and nothing changes -/
def EvI (M : Model) (A : Around) (env : Env) (h : Heap) (e : Expr) (n : Int) : Prop :=
  ∀ (s : Shared) (Q : Value → Shared → Prop) (E : Value → Shared → Prop), s.heap = h → (∀ t k, Q (.int n t) { s with toks := k }) → wpAny M A (eval e env) Q E s

theorem mul_ok {a b : Int} (h : a.natAbs < 2 ^ 63) : IntMulOk a b := IntMulOk.of_left (intBits_le_64 (by omega) (by omega))

section
variable {prog : Program} {w : World} {A : Around} {env : Env} {h : Heap} {a b : Int} {l r : Expr} {pos : Pos}

theorem EvI.use (x : EvI (model prog w) A env h l a) {s : Shared} {Q : Value → Shared → Prop} {E : Value → Shared → Prop} (hs : s.heap = h) (hQ : ∀ t k, Q (.int a t) { s with toks := k }) : wpAny (model prog w) A (eval l env) Q E s := x s Q E hs hQ

theorem EvI.name {x : Str} {m : Str → Option Value} {n : Int} {t : Tok} (hn : h.Ns env.locals m) (hv : m x = some (.int n t)) (hk : env.scope.kind = .function := by rfl) (hl : env.kindOf x = some .local := by rfl) (hd : (x == ("__debug__" : Str)) = false := by decide) :
    EvI (model prog w) A env h (.Name x pos) n := fun s Q E hs hQ => ldl (hs ▸ hn) hv (hQ t s.toks) hk hl hd

theorem EvI.const {n : Int} {k : Nat} : EvI (model prog w) A env h (.Constant (.int n) k pos) n := fun _ _ _ _ hQ => wpAny_Constant_int (hQ _ _)

theorem EvI.add (x : EvI (model prog w) A env h l a) (y : EvI (model prog w) A env h r b) : EvI (model prog w) A env h (.BinOp l .Add r pos) (a + b) :=
  fun s Q E hs hQ => wpAny_BinOp (x.use hs fun _ _ => y.use hs fun _ _ => add_int (hQ _ _))
theorem EvI.sub (x : EvI (model prog w) A env h l a) (y : EvI (model prog w) A env h r b) : EvI (model prog w) A env h (.BinOp l .Sub r pos) (a - b) :=
  fun s Q E hs hQ => wpAny_BinOp (x.use hs fun _ _ => y.use hs fun _ _ => sub_int (hQ _ _))
theorem EvI.mul (x : EvI (model prog w) A env h l a) (y : EvI (model prog w) A env h r b) (hm : a.natAbs < 2 ^ 63) : EvI (model prog w) A env h (.BinOp l .Mult r pos) (a * b) :=
  fun s Q E hs hQ => wpAny_BinOp (x.use hs fun _ _ => y.use hs fun _ _ => PyProof.Rows.mul_int (hQ _ _) (mul_ok hm))
theorem EvI.mod (x : EvI (model prog w) A env h l a) (y : EvI (model prog w) A env h r b) (hb : b ≠ 0) : EvI (model prog w) A env h (.BinOp l .Mod r pos) (a.fmod b) :=
  fun s Q E hs hQ => wpAny_BinOp (x.use hs fun _ _ => y.use hs fun _ _ => mod_int hb (hQ _ _))
theorem EvI.neg (x : EvI (model prog w) A env h l a) : EvI (model prog w) A env h (.UnaryOp .USub l pos) (-a) :=
  fun s Q E hs hQ => by
    rw [arm_eval_UnaryOp]
    exact wpAny_bind (x.use hs fun _ _ => wpAny_bind (wpAny_standAt (wpAny_holding (neg_int (hQ _ _)))))
end

/-- a for over an iterator, by an invariant over the frame's names and the heap; it never raises, never leaves early -/
theorem for_loop {prog : Program} {w : World} {A : Around} {env : Env} {s : Shared} {x : Str} {px : Pos} {body : List Stmt} {I : Addr} {fp wr : List Addr} {n : Nat} {P : Nat → Value → Prop} {St : Nat → Heap → Prop} {m : Str → Option Value}
    {Q : Flow → Shared → Prop} {E : Value → Shared → Prop} (W : Walks prog w A I fp wr n P St) (hLf : env.locals ∉ fp) (J : Nat → (Str → Option Value) → Heap → Prop)
    (turn : ∀ i v m h h₂ tk, i < n → P i v → J i m h → (∀ b o, b ≠ env.locals → b ∉ wr → h.get? b = some o → h₂.get? b = some o) → h₂.Ns env.locals (upd m x v) → St (i + 1) h₂ →
      wpAny (model prog w) A (execs body env) (fun f s₃ => f = .next ∧ ∃ m' h' tk', s₃ = { s with heap := h', toks := tk' } ∧ h'.Ns env.locals m' ∧ J (i + 1) m' h' ∧ (∀ b ∈ fp, ∀ o, h₂.get? b = some o → h'.get? b = some o)) (fun _ _ => False) { s with heap := h₂, toks := tk })
    (done : ∀ m h h₁ tk, J n m h → (∀ b o, b ≠ env.locals → b ∉ wr → h.get? b = some o → h₁.get? b = some o) → h₁.Ns env.locals m → Q .next { s with heap := h₁, toks := tk })
    (st : St 0 s.heap) (hn : s.heap.Ns env.locals m) (j : J 0 m s.heap) (hx : env.kindOf x = some .local := by rfl) (hp : (env.scope.kind == .class || (env.scope.kind == .module && env.locals != env.globals)) = false := by rfl) :
    codeAny (model prog w) A (.forLoop (.Name x px) (.ref I) body [] env) (fun r s' => match r with | .ok f => Q f s' | .error e => cameBackBy (model prog w) A env E e s') s := by
  have hLw : env.locals ∉ wr := fun h => hLf (W.sub _ h)
  refine codeAny_forLoop (fun k s' => ∃ i m h tk, s' = { s with heap := h, toks := tk } ∧ J i m h ∧ h.Ns env.locals m ∧ St i h ∧ i ≤ n ∧ k = n - i) ?_ n ⟨0, m, s.heap, s.toks, rfl, j, hn, st, Nat.zero_le _, rfl⟩
  rintro k s' ⟨i, m, h, tk, rfl, hj, hns, hst, hi, rfl⟩
  by_cases hlt : i < n
  · refine W.item i _ _ _ hlt hst fun v h₁ tk₁ hP hst₁ hk₁ => ?_
    have hns₁ : h₁.Ns env.locals m := hns.at' fun o e => hk₁ _ o hLw e
    refine wpAny_assign_Name (stl hns₁ (fun h₂ hns₂ hs₂ => ?_) hx hp)
    have hst₂ : St (i + 1) h₂ := W.frame _ _ _ hst₁ fun b hb o e => hs₂.extBut b o (fun (q : b = env.locals) => hLf (q ▸ hb)) e
    refine never (wpAny_mono (turn i v m h h₂ _ hlt hP hj (fun b o n1 n2 e => hs₂.extBut b o n1 (hk₁ b o n2 e)) hns₂ hst₂) (fun f s₃ h₃ => ?_) fun _ _ x => x)
    obtain ⟨rfl, m', h', tk', rfl, hns', hj', hkeep⟩ := h₃
    exact ⟨n - (i + 1), by omega, i + 1, m', h', tk', rfl, hj', hns', W.frame _ _ _ hst₂ hkeep, hlt, rfl⟩
  · have hin : i = n := by omega
    subst hin
    refine W.done _ _ _ hst fun h₁ tk₁ hk₁ => wpAny_execs_nil ?_
    exact done m h h₁ tk₁ hj (fun b o _ n2 e => hk₁ b o n2 e) (hns.at' fun o e => hk₁ _ o hLw e)
end Mine
end

section
set_option maxRecDepth 100000
set_option linter.unusedVariables false
namespace Mine
open PySem PySem.Calls PyProof.Rows PySem.W
local macro_rules | `(tactic| walk_at "mget") => `(tactic| (repeat (first | assumption | exact if_pos rfl | refine (if_neg (by decide)).trans ?_)))

def P0 : Params := { strHash := fun _ => 0, shareClass := fun _ => 0, mergeTok := id, idOf := fun _ => 0, idOfShared := fun _ _ => 0, followText := fun _ => false, idOfImm := fun _ => 0 }
/-- the text's defs, as the top leaves them -/
noncomputable def fdAt (a : Addr) : FuncData := match (hd.heap_39 P0).lookup a with
  | some ⟨_, _, .func fd, _⟩ => fd
  | _ => default
noncomputable def bodyAt (a : Addr) : List Stmt := match (fdAt a).body with
  | .stmts b => b
  | _ => []

/-- a list of pairs of ints -/
def PtsAt (h : Heap) (vs : List Value) (pts : List Pt) : Prop :=
  vs.length = pts.length ∧ ∀ (i : Nat) (v : Value), vs[i]? = some v → ∃ t p tx ty, v = .ref t ∧ pts[i]? = some p ∧ h.IsTuple t #[.int p.1 tx, .int p.2 ty]
def RingAt (h : Heap) (a : Addr) (pts : List Pt) : Prop := ∃ vs : List Value, h.IsList a vs.toArray ∧ PtsAt h vs pts

theorem tup_keeps {h h' : Heap} {t : Addr} {xs : Array Value} (x : h.IsTuple t xs) (k : Kp h h') : h'.IsTuple t xs := let ⟨o, ho, r⟩ := x; ⟨o, k _ _ ho, r⟩
theorem list_keeps {h h' : Heap} {t : Addr} {xs : Array Value} (x : h.IsList t xs) (k : Kp h h') : h'.IsList t xs := let ⟨o, ho, r⟩ := x; ⟨o, k _ _ ho, r⟩
theorem PtsAt.keeps {h h' : Heap} {vs : List Value} {pts : List Pt} (x : PtsAt h vs pts) (k : Kp h h') : PtsAt h' vs pts :=
  ⟨x.1, fun i v e => let ⟨t, p, tx, ty, e1, e2, e3⟩ := x.2 i v e; ⟨t, p, tx, ty, e1, e2, tup_keeps e3 k⟩⟩
theorem RingAt.keeps {h h' : Heap} {a : Addr} {pts : List Pt} (x : RingAt h a pts) (k : Kp h h') : RingAt h' a pts := let ⟨vs, l, p⟩ := x; ⟨vs, list_keeps l k, p.keeps k⟩

section
variable {prog : Program} {w : World} {A : Around} {E : Value → Shared → Prop} {s : Shared} {env : Env}

/-- a, b = (a tuple that stands) -/
theorem unpack2 {x y : Str} {k : Nat} {p1 p2 p3 : Pos} {t : Addr} {a b : Value} {m : Str → Option Value} {Q : Unit → Shared → Prop} (hh : A.handled = none) (ht : s.heap.IsTuple t #[a, b]) (hn : s.heap.Ns env.locals m)
    (h : ∀ h' tk, h'.Ns env.locals (upd (upd m x a) y b) → (∀ c o, c ≠ env.locals → s.heap.get? c = some o → h'.get? c = some o) → Q () { s with heap := h', toks := tk })
    (hx : env.kindOf x = some .local := by rfl) (hy : env.kindOf y = some .local := by rfl) (hp : (env.scope.kind == .class || (env.scope.kind == .module && env.locals != env.globals)) = false := by rfl) :
    wpAny (model prog w) A (assign (.Tuple [.Name x p1, .Name y p2] k p3) env (.ref t)) Q E s := by
  refine assign_Tuple_tuple hh (by exact ht) rfl rfl fun h₁ he => ?_
  have hns₁ : h₁.Ns env.locals m := hn.extBut he (Nat.ne_of_lt hn.lt)
  refine assignInOrder_cons (PyProof.Rows.assign_Name (stl hns₁ (fun h₂ hns₂ hs₂ => ?_) hx hp))
  refine assignInOrder_cons (PyProof.Rows.assign_Name (stl hns₂ (fun h₃ hns₃ hs₃ => ?_) hy hp))
  refine assignInOrder_nil (h h₃ _ hns₃ fun c o n e => hs₃.extBut c o n (hs₂.extBut c o n (he c o (Nat.ne_of_lt (Heap.lt_size e)) e)))

/-- an item of a ring by its place, from behind too -/
theorem ring_item {ra : Addr} {vs : List Value} {pts : List Pt} {k : Int} {tk : Tok} {j : Nat} {Q : Value → Shared → Prop} (hl : s.heap.IsList ra vs.toArray) (hp : PtsAt s.heap vs pts) (hsz : pts.length ≤ 66) (hj : j < pts.length) (hk : k = j ∨ k = (j : Int) - pts.length)
    (h : ∀ t p tx ty, pts[j]? = some p → s.heap.IsTuple t #[.int p.1 tx, .int p.2 ty] → Q (.ref t) s) : wpAny (model prog w) A (getItem (.ref ra) (.int k tk)) Q E s := by
  have hlen := hp.1
  have hj' : j < vs.length := by omega
  obtain ⟨t, p, tx, ty, e1, e2, e3⟩ := hp.2 j vs[j] (by simp [hj'])
  have hq := h t p tx ty e2 e3
  rw [← e1] at hq
  rcases hk with rfl | rfl
  · exact wpAny_getItem_list hl (by omega) (by omega) (by simp [hj']) hq
  · refine wpAny_getItem_list_neg hl (by omega) (by simp; omega) (by omega) ?_ hq
    have : (((j : Int) - (pts.length : Int)) + ((vs.toArray.size : Nat) : Int)).toNat = j := by simp; omega
    rw [this]
    simp [hj']
end

theorem list_slot : typeLookup (.type "list") "__getitem__" = pure (some (.builtin "list.__getitem__")) := slot_list_getitem.lookup

end Mine
end

section
set_option maxRecDepth 100000
set_option linter.unusedVariables false
namespace Mine
open PySem PySem.Calls PyProof.Rows PySem.W
local macro_rules | `(tactic| walk_at "mget") => `(tactic| (repeat (first | assumption | exact if_pos rfl | refine (if_neg (by decide)).trans ?_)))

section
variable {w : World} {p : Program} {loose : List Str} {mg mb : Str → Option Value}
theorem fn_in {h : Heap} (K : (hd.heap_39 w.params).In h) : ∃ o, h.get? 77 = some o ∧ o.data = .func (fdAt 77) := ⟨_, K 77 _ rfl, rfl⟩
theorem due_code {h : Heap} (K : (hd.heap_39 w.params).In h) : h.CodeRec (fdAt 77).code (fdAt 77).qualname := codeRec_of K (by rfl)
theorem due_binds {s : Shared} {a : Value} : BindsTo s (fdAt 77) ⟨[a], []⟩ [("ring", a)] := BindsTo.of_eq rfl
theorem due_cells : ∀ x ∈ (fdAt 77).scope.names, x.2 ≠ .cell := by decide
theorem due_locals {a : Value} : ∀ x ∈ [(("ring" : Str), a)], (fdAt 77).scope.names.lookup x.1 = some .local := by
  intro x hx
  rw [List.mem_singleton.mp hx]
  rfl
end

section
variable {prog : Program} {w : World} {A : Around} {s : Shared} {p : Program} {loose : List Str} {mg mb : Str → Option Value}
theorem due_enter {a : Value} {Q : Value → Shared → Prop} (hroom : A.depth < recursionLimit) (G : Gd w p loose mg mb s.heap)
    (h : ∀ h₀, h₀.Ns s.heap.objs.size (fun x => [(("ring" : Str), a)].lookup x) → Kp s.heap h₀ →
      wpAny (model prog w) (A.deeper (callEnv (fdAt 77) s.heap.objs.size 77)) (execs (bodyAt 77) (callEnv (fdAt 77) s.heap.objs.size 77)) (fun f s' => Q (match f with | .ret v => v | _ => .none) s') (fun _ _ => False) { s with heap := h₀, toks := s.toks + 1 }) :
    wpAny (model prog w) A (call (.ref 77) [a]) Q (fun _ _ => False) s := by
  obtain ⟨o, ho, hd⟩ := fn_in G.K
  refine wpAny_call (codeAny_call_def hroom ho hd G.T.nolimit (due_code G.K) rfl due_binds due_cells due_locals (fun h₀ hn hk => ?_) rfl rfl rfl)
  refine wpAny_mono (h h₀ hn hk) (fun f s' x => ?_) fun _ _ x => x.elim
  cases f <;> exact x
end
end Mine
end

section
set_option maxRecDepth 100000
set_option linter.unusedVariables false
namespace Mine
open PySem PySem.Calls PyProof.Rows PySem.W
local macro_rules | `(tactic| walk_at "mget") => `(tactic| (repeat (first | assumption | exact if_pos rfl | refine (if_neg (by decide)).trans ?_)))

theorem kp_but {hb h h' : Heap} {L : Addr} (k : Kp hb h) (n : ∀ c o, c ≠ L → h.get? c = some o → h'.get? c = some o) (hL : hb.get? L = none) : Kp hb h' := fun c o e =>
  n c o (fun q => by rw [q, hL] at e; cases e) (k c o e)
theorem kp_but2 {hb h h' : Heap} {L : Addr} {wr : List Addr} (k : Kp hb h) (n : ∀ c o, c ≠ L → c ∉ wr → h.get? c = some o → h'.get? c = some o) (hL : hb.get? L = none) (hw : ∀ c ∈ wr, hb.get? c = none) : Kp hb h' := fun c o e =>
  n c o (fun q => by rw [q, hL] at e; cases e) (fun q => by rw [hw c q] at e; cases e) (k c o e)
theorem none_of_size {hb h : Heap} (k : Kp hb h) : hb.get? h.objs.size = none := by
  cases q : hb.get? h.objs.size with
  | none => rfl
  | some o => exact absurd (Heap.lt_size (k _ _ q)) (Nat.lt_irrefl _)

section
variable {prog : Program} {w : World} {A : Around} {s : Shared} {p : Program} {loose : List Str} {mg mb : Str → Option Value}

noncomputable abbrev denv (L : Addr) : Env := callEnv (fdAt 77) L 77

/-- what the turns of the loop keep -/
structure DJ (hb : Heap) (ra : Addr) (pts : List Pt) (i : Nat) (m : Str → Option Value) (h : Heap) : Prop where
  k : Kp hb h
  ring : m "ring" = some (.ref ra)
  top : ∃ t, m "top" = some (.int (((edges pts).take i).map topE).sum t)
  low : ∃ t, m "low" = some (.int (((edges pts).take i).map lowE).sum t)

def forBody : Stmt → List Stmt
  | .For _ _ b _ _ => b
  | _ => []
noncomputable def dueTurn : List Stmt := forBody ((bodyAt 77).getD 1 (.Pass default))

theorem getlast_get (pts : List Pt) (h : 0 < pts.length) : pts[pts.length - 1]? = some (pts.getLast?.getD (0, 0)) := by
  have hne : pts ≠ [] := by intro q; rw [q] at h; cases h
  rw [List.getLast?_eq_some_getLast hne, List.getLast_eq_getElem]
  simp [show pts.length - 1 < pts.length by omega]

theorem prev_get {pts : List Pt} {i : Nat} (hi : i < pts.length) {e : Pt × Pt} (he : (edges pts)[i]? = some e) : pts[(if i = 0 then pts.length - 1 else i - 1)]? = some e.1 ∧ pts[i]? = some e.2 := by
  rw [edges_get hi] at he
  cases he
  refine ⟨?_, by simp [hi]⟩
  by_cases h0 : i = 0
  · rw [if_pos h0, if_pos h0]
    exact getlast_get pts (by omega)
  · rw [if_neg h0, if_neg h0]
    simp [show i - 1 < pts.length by omega]

theorem take_map_succ {α : Type} {f : α → Int} {l : List α} {i : Nat} {e : α} (h : l[i]? = some e) : ((l.take (i + 1)).map f).sum = ((l.take i).map f).sum + f e := by
  rw [List.take_add_one, h]
  simp

theorem due_turn {L : Addr} {hb : Heap} {ra : Addr} {pts : List Pt} {i : Nat} {m : Str → Option Value} {tk : Tok} {h : Heap} (hh : A.handled = none) (hr : RingAt hb ra pts) (hL : hb.get? L = none) (hsz : pts.length ≤ 66) (hbd : ∀ q ∈ pts, Small 1024 q)
    (hi : i < pts.length) (hj : DJ hb ra pts i m h) (hkp : Kp hb s.heap) (hn : s.heap.Ns L (upd m "k" (.int i tk))) :
    wpAny (model prog w) A (execs dueTurn (denv L)) (fun f s₃ => f = .next ∧ ∃ m' h' tk', s₃ = { s with heap := h', toks := tk' } ∧ h'.Ns L m' ∧ DJ hb ra pts (i + 1) m' h' ∧ (∀ b o, b ≠ L → s.heap.get? b = some o → h'.get? b = some o)) (fun _ _ => False) s := by
  obtain ⟨vs, hl, hp⟩ := hr
  obtain ⟨t1, htop⟩ := hj.top
  obtain ⟨t2, hlow⟩ := hj.low
  obtain ⟨e, he⟩ : ∃ e, (edges pts)[i]? = some e := ⟨_, List.getElem?_eq_getElem (by rw [edges_length]; exact hi)⟩
  obtain ⟨g1, g2⟩ := prev_get hi he
  have hm := edges_mem (List.mem_of_getElem? he)
  have b1 := hbd _ hm.1
  have b2 := hbd _ hm.2
  obtain ⟨⟨x, y⟩, ⟨z, w'⟩⟩ := e
  unfold Small at b1 b2
  simp only at b1 b2 g1 g2
  have hring : (upd m "k" (.int i tk)) "ring" = some (.ref ra) := by walk_at "mget"; exact hj.ring
  -- x, y = ring[k - 1]
  refine wpAny_execs_cons (Assign_Tuple (wpAny_Subscript_BinOp_late (ldl hn hring (EvI.use (EvI.sub (EvI.name hn (if_pos rfl)) EvI.const) rfl fun t k => ?_))))
  refine ⟨"list", _, list_slot, list_keeps hl hkp |>.typeIs, ?_⟩
  refine ring_item (j := if i = 0 then pts.length - 1 else i - 1) (list_keeps hl hkp) (hp.keeps hkp) hsz (by split <;> omega) (by split <;> omega) fun T q tx ty hq hT => ?_
  rw [g1] at hq
  cases hq
  refine unpack2 hh hT hn fun h₁ k₁ hn₁ hk₁ => ?_
  have kp₁ := kp_but hkp hk₁ hL
  -- z, w = ring[k]
  refine wpAny_execs_cons (Assign_Tuple (wpAny_Subscript_Name_late (ldl hn₁ (by walk_at "mget") (EvI.use (EvI.name hn₁ (by walk_at "mget")) rfl fun t k => ?_))))
  refine ⟨"list", _, list_slot, list_keeps hl kp₁ |>.typeIs, ?_⟩
  refine ring_item (j := i) (list_keeps hl kp₁) (hp.keeps kp₁) hsz hi (.inl rfl) fun T' q tx' ty' hq hT' => ?_
  rw [g2] at hq
  cases hq
  refine unpack2 hh hT' hn₁ fun h₂ k₂ hn₂ hk₂ => ?_
  have kp₂ := kp_but kp₁ hk₂ hL
  -- top += ..
  have vx : (upd (upd (upd (upd (upd m "k" (.int i tk)) "x" (.int x tx)) "y" (.int y ty)) "z" (.int z tx')) "w" (.int w' ty')) "x" = some (.int x tx) := by walk_at "mget"
  have vy : (upd (upd (upd (upd (upd m "k" (.int i tk)) "x" (.int x tx)) "y" (.int y ty)) "z" (.int z tx')) "w" (.int w' ty')) "y" = some (.int y ty) := by walk_at "mget"
  have vz : (upd (upd (upd (upd (upd m "k" (.int i tk)) "x" (.int x tx)) "y" (.int y ty)) "z" (.int z tx')) "w" (.int w' ty')) "z" = some (.int z tx') := by walk_at "mget"
  have vw : (upd (upd (upd (upd (upd m "k" (.int i tk)) "x" (.int x tx)) "y" (.int y ty)) "z" (.int z tx')) "w" (.int w' ty')) "w" = some (.int w' ty') := by walk_at "mget"
  have vt : (upd (upd (upd (upd (upd m "k" (.int i tk)) "x" (.int x tx)) "y" (.int y ty)) "z" (.int z tx')) "w" (.int w' ty')) "top" = some (.int (((edges pts).take i).map topE).sum t1) := by walk_at "mget"
  have vl : (upd (upd (upd (upd (upd m "k" (.int i tk)) "x" (.int x tx)) "y" (.int y ty)) "z" (.int z tx')) "w" (.int w' ty')) "low" = some (.int (((edges pts).take i).map lowE).sum t2) := by walk_at "mget"
  have vr : (upd (upd (upd (upd (upd m "k" (.int i tk)) "x" (.int x tx)) "y" (.int y ty)) "z" (.int z tx')) "w" (.int w' ty')) "ring" = some (.ref ra) := by walk_at "mget"
  generalize (upd (upd (upd (upd (upd m "k" (.int i tk)) "x" (.int x tx)) "y" (.int y ty)) "z" (.int z tx')) "w" (.int w' ty')) = m₂ at *
  refine wpAny_execs_cons (wpAny_AugAssign_Name (wpAny_loadName_local (env := denv L) rfl rfl hn₂ vt ?_))
  refine EvI.use (EvI.mul (EvI.sub (EvI.name hn₂ vw) (EvI.name hn₂ vy)) (EvI.add (EvI.add (EvI.mul (EvI.name hn₂ vx) (EvI.name hn₂ vx) (by omega)) (EvI.mul (EvI.name hn₂ vx) (EvI.name hn₂ vz) (by omega))) (EvI.mul (EvI.name hn₂ vz) (EvI.name hn₂ vz) (by omega))) (by omega)) rfl fun t3 k3 => ?_
  refine iadd_int (stl hn₂ fun h₃ hn₃ hs₃ => ?_)
  have wx : (upd m₂ "top" (.int ((((edges pts).take i).map topE).sum + (w' - y) * (x * x + x * z + z * z)) k3)) "x" = some (.int x tx) := by walk_at "mget"
  have wy : (upd m₂ "top" (.int ((((edges pts).take i).map topE).sum + (w' - y) * (x * x + x * z + z * z)) k3)) "y" = some (.int y ty) := by walk_at "mget"
  have wz : (upd m₂ "top" (.int ((((edges pts).take i).map topE).sum + (w' - y) * (x * x + x * z + z * z)) k3)) "z" = some (.int z tx') := by walk_at "mget"
  have ww : (upd m₂ "top" (.int ((((edges pts).take i).map topE).sum + (w' - y) * (x * x + x * z + z * z)) k3)) "w" = some (.int w' ty') := by walk_at "mget"
  have wl : (upd m₂ "top" (.int ((((edges pts).take i).map topE).sum + (w' - y) * (x * x + x * z + z * z)) k3)) "low" = some (.int (((edges pts).take i).map lowE).sum t2) := by walk_at "mget"
  refine wpAny_execs_cons (wpAny_AugAssign_Name (wpAny_loadName_local (env := denv L) rfl rfl hn₃ wl ?_))
  refine EvI.use (EvI.mul (EvI.sub (EvI.name hn₃ ww) (EvI.name hn₃ wy)) (EvI.add (EvI.name hn₃ wx) (EvI.name hn₃ wz)) (by omega)) rfl fun t4 k4 => ?_
  refine iadd_int (stl hn₃ fun h₄ hn₄ hs₄ => ?_)
  have kp₃ := kp_but kp₂ (fun c o n e => hs₃.extBut c o n e) hL
  have kp₄ := kp_but kp₃ (fun c o n e => hs₄.extBut c o n e) hL
  refine wpAny_execs_nil ⟨rfl, _, h₄, _, rfl, hn₄, ⟨kp₄, ?_, ⟨k3, ?_⟩, ⟨k4, ?_⟩⟩, fun b o n e => hs₄.extBut b o n (hs₃.extBut b o n (hk₂ b o n (hk₁ b o n e)))⟩
  · walk_at "mget"
  · rw [take_map_succ he]
    walk_at "mget"
  · rw [take_map_succ he]
    exact if_pos rfl
end
end Mine
end

section
set_option maxRecDepth 100000
set_option linter.unusedVariables false
namespace Mine
open PySem PySem.Calls PyProof.Rows PySem.W
local macro_rules | `(tactic| walk_at "mget") => `(tactic| (repeat (first | assumption | exact if_pos rfl | refine (if_neg (by decide)).trans ?_)))

section
variable {prog : Program} {w : World} {A : Around} {s : Shared} {p : Program} {loose : List Str} {mg mb : Str → Option Value}

/-- f(e) of a built-in function under its name -/
theorem call_b1 {M : Model} {A : Around} {E : Value → Shared → Prop} {s : Shared} {env : Env} {x : Str} {np pos : Pos} {e : Expr} {id : String} {Q : Value → Shared → Prop} (hs : starEach [e] env = [(false, eval e env)])
    (h : wpAny M A (eval (.Name x np) env) (fun f s₁ => f = .builtin id ∧ wpAny M A (eval e env) (fun v s₂ => wpAny M A (call (.builtin id) [v]) Q E s₂) E s₁) E s) :
    wpAny M A (eval (.Call (.Name x np) [e] [] pos) env) Q E s :=
  PySem.Call_name1 hs (wpAny_mono h (fun f s₁ h₁ => by obtain ⟨rfl, h₁⟩ := h₁; exact PySem.callWith_builtin1 h₁) fun _ _ x => x)

theorem call_t1 {M : Model} {A : Around} {E : Value → Shared → Prop} {s : Shared} {env : Env} {x : Str} {np pos : Pos} {e : Expr} {T : String} {Q : Value → Shared → Prop} (hs : starEach [e] env = [(false, eval e env)])
    (h : wpAny M A (eval (.Name x np) env) (fun f s₁ => f = .type T ∧ wpAny M A (eval e env) (fun v s₂ => wpAny M A (call (.type T) [v]) Q E s₂) E s₁) E s) :
    wpAny M A (eval (.Call (.Name x np) [e] [] pos) env) Q E s :=
  PySem.Call_name1 hs (wpAny_mono h (fun f s₁ h₁ => by obtain ⟨rfl, h₁⟩ := h₁; exact PySem.callWith_type1 h₁) fun _ _ x => x)

theorem due_walk {L : Addr} {hb : Heap} {ra : Addr} {pts : List Pt} {Q : Flow → Shared → Prop} (hh : A.handled = none) (G : Gd w p loose mg mb hb) (hr : RingAt hb ra pts) (hkp : Kp hb s.heap) (hL : hb.get? L = none) (hn : s.heap.Ns L (fun x => [(("ring" : Str), Value.ref ra)].lookup x)) (hsz : pts.length ≤ 66) (hbd : ∀ q ∈ pts, Small 1024 q)
    (h : ∀ t h' tk tx ty, h'.IsTuple t #[.int (top pts) tx, .int (low pts) ty] → Kp hb h' → Q (.ret (.ref t)) { s with heap := h', toks := tk }) :
    wpAny (model prog w) A (execs (bodyAt 77) (denv L)) Q (fun _ _ => False) s := by
  have hr0 := hr
  obtain ⟨vs, hl, hp⟩ := hr
  refine wpAny_execs_cons (Assign_Tuple (Tuple_ (spliced_more (EvI.const.use rfl fun t1 k1 => spliced_more (EvI.const.use rfl fun t2 k2 => spliced_none ?_)))))
  unfold newTuple
  refine wpAny_newObj_type ?_ (by show 2 ≤ sizeLine; decide)
  dsimp only
  refine unpack2 hh ⟨_, Heap.get?_push_size _ rfl, rfl, 0, rfl⟩ (hn.push _) fun h₁ tk₁ hn₁ hk₁ => ?_
  have kp₁ : Kp hb h₁ := kp_but (hkp.trans (Kp.push _ _)) hk₁ hL
  refine wpAny_execs_cons (wpAny_For ?_)
  refine call_t1 rfl (ldb (G.keeps kp₁) rfl PyProof.Rows.Boot.«range» ⟨rfl, ?_⟩)
  refine call_b1 rfl (ldb (G.keeps kp₁) rfl PyProof.Rows.Boot.«len» ⟨rfl, ?_⟩)
  refine ldl hn₁ (by walk_at "mget"; rfl) ?_
  have hlen := hp.1
  have hsize : vs.toArray.size = pts.length := by simp [hlen]
  refine call_len_list (list_keeps hl kp₁) (by rw [hsize]; omega) ?_
  rw [hsize]
  refine call_range_1 ?_
  refine wpAny_pyIter_range (IsRange.new ..) (small_one (by decide) (by decide) (by omega) (by omega)) ?_
  dsimp only
  generalize hH : h₁.push _ = H
  have kpH : Kp hb H := by rw [← hH]; exact kp₁.trans (Kp.push _ _)
  have hnH : H.Ns L (upd (upd (fun x => [(("ring" : Str), Value.ref ra)].lookup x) "top" (.int 0 t1)) "low" (.int 0 t2)) := by rw [← hH]; exact hn₁.push _
  have hrs : Builtin.Range.rangeSize 0 (pts.length : Int) 1 = (pts.length : Int) := by rw [rangeSize_one]; split <;> omega
  have W : Walks prog w A H.objs.size [H.objs.size] [H.objs.size] pts.length (fun i v => i < pts.length ∧ ∃ t, v = .int (0 + i * 1) t) (fun i h => IsRangeIter h H.objs.size (0 + (i : Nat) * 1) ((pts.length : Int) - (i : Nat)) 1) := (Walks.range hh _ 0 1 pts.length).bound
  have hIL : L ≠ H.objs.size := Nat.ne_of_lt hnH.lt
  have hIb : hb.get? H.objs.size = none := none_of_size kpH
  refine for_loop (env := denv L) (W := W) (J := DJ hb ra pts) (m := (upd (upd (fun x => [(("ring" : Str), Value.ref ra)].lookup x) "top" (.int 0 t1)) "low" (.int 0 t2))) ?_ ?_ ?_ ?_ ?_ ?_
  · intro hm
    exact hIL (List.mem_singleton.mp hm)
  · rintro i v m h₀ h₂ tk hi ⟨_, t, rfl⟩ hj hk hn₂ st₂
    have kp₂ : Kp hb h₂ := kp_but2 hj.k hk hL (fun c hc => by rw [List.mem_singleton.mp hc]; exact hIb)
    rw [show (0 : Int) + (i : Int) * 1 = i by omega] at hn₂
    have T := due_turn (prog := prog) (w := w) (s := { s with heap := h₂, toks := tk }) hh hr0 hL hsz hbd hi hj kp₂ hn₂
    refine wpAny_mono T (fun f s₃ r => ?_) fun _ _ x => x
    obtain ⟨e1, m', h', tk', e2, e3, e4, e5⟩ := r
    exact ⟨e1, m', h', tk', e2, e3, e4, fun b hb' o e => e5 b o (fun q => by rw [List.mem_singleton.mp hb'] at q; exact hIL q.symm) e⟩
  · intro m h₀ h₂ tk hj hk hn₂
    have kp₂ : Kp hb h₂ := kp_but2 hj.k hk hL (fun c hc => by rw [List.mem_singleton.mp hc]; exact hIb)
    obtain ⟨ta, htop⟩ := hj.top
    obtain ⟨tb, hlow⟩ := hj.low
    rw [← edges_length, List.take_length] at htop hlow
    dsimp only
    refine wpAny_execs_cons (wpAny_Return_some (Tuple_ (spliced_more (ldl hn₂ htop (spliced_more (ldl hn₂ hlow (spliced_none ?_)))))))
    unfold newTuple
    refine wpAny_newObj_type ?_ (by show 2 ≤ sizeLine; decide)
    exact h _ _ _ _ _ ⟨_, Heap.get?_push_size _ rfl, rfl, 0, rfl⟩ (kp₂.trans (Kp.push _ _))
  · show IsRangeIter _ _ (0 + ((0 : Nat) : Int) * 1) _ 1
    rw [hrs]
    simpa using Heap.get?_push_size _ rfl
  · exact hnH.push _
  · refine ⟨kpH.trans (Kp.push _ _), ?_, ⟨t1, ?_⟩, ⟨t2, ?_⟩⟩
    · walk_at "mget"; rfl
    · simp; walk_at "mget"
    · simp

/-- _law_due: the two sums -/
theorem due_spec {ra : Addr} {pts : List Pt} {Q : Value → Shared → Prop} (hh : A.handled = none) (hroom : A.depth < recursionLimit) (G : Gd w p loose mg mb s.heap) (hr : RingAt s.heap ra pts) (hsz : pts.length ≤ 66) (hbd : ∀ q ∈ pts, Small 1024 q)
    (hQ : ∀ t h' tk tx ty, h'.IsTuple t #[.int (top pts) tx, .int (low pts) ty] → Kp s.heap h' → Q (.ref t) { s with heap := h', toks := tk }) :
    wpAny (model prog w) A (call (.ref 77) [.ref ra]) Q (fun _ _ => False) s :=
  due_enter hroom G fun h₀ hn hk => due_walk (s := { s with heap := h₀, toks := s.toks + 1 }) hh G hr hk (none_of_size (Kp.refl _)) hn hsz hbd fun t h' tk tx ty ht hk' => hQ t h' tk tx ty ht hk'
end
end Mine
end

section
set_option maxRecDepth 100000
set_option linter.unusedVariables false
namespace Mine
open PySem PySem.Calls PyProof.Rows PySem.W

section
variable {w : World} {p : Program} {loose : List Str} {mg mb : Str → Option Value}
theorem fm_in {h : Heap} (K : (hd.heap_39 w.params).In h) : ∃ o, h.get? 63 = some o ∧ o.data = .func (fdAt 63) := ⟨_, K 63 _ rfl, rfl⟩
theorem told_in {h : Heap} (K : (hd.heap_39 w.params).In h) : ∃ o, h.get? 70 = some o ∧ o.data = .func (fdAt 70) := ⟨_, K 70 _ rfl, rfl⟩
theorem fm_def {h : Heap} (K : (hd.heap_39 w.params).In h) : ∃ o n, h.get? 56 = some o ∧ o.data = .seq #[.none] n := ⟨_, _, K 56 _ rfl, rfl⟩
theorem fm_code {h : Heap} (K : (hd.heap_39 w.params).In h) : h.CodeRec (fdAt 63).code (fdAt 63).qualname := codeRec_of K (by rfl)
theorem told_code {h : Heap} (K : (hd.heap_39 w.params).In h) : h.CodeRec (fdAt 70).code (fdAt 70).qualname := codeRec_of K (by rfl)
theorem told_binds {s : Shared} {a b : Value} : BindsTo s (fdAt 70) ⟨[a, b], []⟩ [("data", a), ("weights", b)] := BindsTo.of_eq rfl
theorem fm_binds {s : Shared} {a b : Value} (K : (hd.heap_39 w.params).In s.heap) : BindsTo s (fdAt 63) ⟨[a, b], []⟩ [("data", a), ("weights", b)] := by
  obtain ⟨o, n, h1, h2⟩ := fm_def K
  exact BindsTo.of_defaults (T := 56) rfl h1 h2 rfl rfl
theorem told_cells : ∀ x ∈ (fdAt 70).scope.names, x.2 ≠ .cell := by decide
theorem told_locals {a b : Value} : ∀ x ∈ [(("data" : Str), a), ("weights", b)], (fdAt 70).scope.names.lookup x.1 = some .local := by
  intro x hx
  simp only [List.mem_cons, List.not_mem_nil, or_false] at hx
  rcases hx with rfl | rfl <;> rfl
theorem fm_locals {a b : Value} : ∀ x ∈ [(("data" : Str), a), ("weights", b)], (fdAt 63).scope.names.lookup x.1 = some .local := by
  intro x hx
  simp only [List.mem_cons, List.not_mem_nil, or_false] at hx
  rcases hx with rfl | rfl <;> rfl
end

noncomputable abbrev fenv (L : Addr) : Env := callEnvC (fdAt 63) L 63
noncomputable abbrev tenv (L : Addr) : Env := callEnv (fdAt 70) L 70
def two0 (a b : Value) : Str → Option Value := upd (upd (fun _ => none) "data" a) "weights" b
abbrev two1 (a b : Value) : Str → Option Value := fun x => [(("data" : Str), a), ("weights", b)].reverse.lookup x

section
variable {prog : Program} {w : World} {A : Around} {s : Shared} {p : Program} {loose : List Str} {mg mb : Str → Option Value}
theorem fm_enter {a b : Value} {Q E : Value → Shared → Prop} (hroom : A.depth < recursionLimit) (G : Gd w p loose mg mb s.heap)
    (h : ∀ h₀ tk, h₀.Ns s.heap.objs.size (two0 a b) → Kp s.heap h₀ →
      wpAny (model prog w) (A.deeper (fenv s.heap.objs.size)) (execs (bodyAt 63) (fenv s.heap.objs.size)) (fun f s' => Q (match f with | .ret v => v | _ => .none) s')
        (fun e s' => wpAny (model prog w) (A.deeper (fenv s.heap.objs.size)) (leaving (fenv s.heap.objs.size) e) (fun _ s'' => E e s'') (fun e' s'' => E e' s'') s') { s with heap := h₀, toks := tk }) :
    wpAny (model prog w) A (call (.ref 63) [a, b]) Q E s := by
  obtain ⟨o, ho, hd⟩ := fm_in G.K
  refine wpAny_call (codeAny_call_function hroom ho hd rfl rfl rfl (fm_code G.K) (fm_binds G.K _ _ _ _ ?_))
  refine wpAny_newFunctionEnv_cells rfl (fun x hx => .inl (fm_locals x hx)) fun env he s' x => ?_
  have he' : env = fenv s.heap.objs.size := he
  clear he
  subst he'
  refine ⟨G.T.nolimit.keeps x.toInCall.keep, codeAny_func ?_⟩
  obtain ⟨h₀, tk, rfl⟩ := x.toInCall.same
  refine wpAny_mono (h h₀ tk ?_ x.toInCall.keep) (fun f s' x => ?_) fun _ _ x => x
  · exact x.toInCall.ns
  · cases f <;> exact x

theorem told_enter {a b : Value} {Q : Value → Shared → Prop} (hroom : A.depth < recursionLimit) (G : Gd w p loose mg mb s.heap)
    (h : ∀ h₀, h₀.Ns s.heap.objs.size (two1 a b) → Kp s.heap h₀ →
      wpAny (model prog w) (A.deeper (tenv s.heap.objs.size)) (execs (bodyAt 70) (tenv s.heap.objs.size)) (fun f s' => Q (match f with | .ret v => v | _ => .none) s')
        (fun _ _ => False) { s with heap := h₀, toks := s.toks + 2 }) :
    wpAny (model prog w) A (call (.ref 70) [a, b]) Q (fun _ _ => False) s := by
  obtain ⟨o, ho, hd⟩ := told_in G.K
  refine wpAny_call (codeAny_call_def hroom ho hd G.T.nolimit (told_code G.K) rfl told_binds told_cells told_locals (fun h₀ hn hk => ?_) rfl rfl rfl)
  refine wpAny_mono (h h₀ hn hk) (fun f s' x => ?_) fun _ _ x => x.elim
  cases f <;> exact x
end
end Mine
end

section
set_option maxRecDepth 100000
set_option linter.unusedVariables false
namespace Mine
open PySem PySem.Calls PyProof.Rows PySem.W
local macro_rules | `(tactic| walk_at "mget") => `(tactic| (repeat (first | assumption | exact if_pos rfl | refine (if_neg (by decide)).trans ?_)))

section
variable {prog : Program} {w : World} {A : Around} {E : Value → Shared → Prop} {s : Shared} {env : Env} {x : Str} {np pos : Pos} {e e₂ : Expr} {Q : Value → Shared → Prop}
theorem call_b2 {id : String} (hs : starEach [e, e₂] env = [(false, eval e env), (false, eval e₂ env)])
    (h : wpAny (model prog w) A (eval (.Name x np) env) (fun f s₁ => f = .builtin id ∧ wpAny (model prog w) A (eval e env) (fun u s₂ => wpAny (model prog w) A (eval e₂ env) (fun v s₃ => wpAny (model prog w) A (call (.builtin id) [u, v]) Q E s₃) E s₂) E s₁) E s) :
    wpAny (model prog w) A (eval (.Call (.Name x np) [e, e₂] [] pos) env) Q E s := by
  refine wpAny_Call_ofName (wpAny_mono h (fun f s₁ h₁ => ?_) fun _ _ x => x)
  obtain ⟨rfl, h₁⟩ := h₁
  rw [hs]
  refine Calls.callWith_builtin rfl (Calls.evalArgs_plain (Calls.spliced_cons (wpAny_mono h₁ (fun _ _ h₁ => Calls.spliced_cons (wpAny_mono h₁ (fun _ _ h₂ => Calls.spliced_nil h₂) fun _ _ e => e)) fun _ _ e => e)))

theorem call_r1 {a : Addr} {o : Obj} {fd : FuncData} (hs : starEach [e] env = [(false, eval e env)])
    (h : wpAny (model prog w) A (eval (.Name x np) env) (fun f s₁ => f = .ref a ∧ wpAny (model prog w) A (eval e env) (fun u s₂ => (s₂.heap.get? a = some o ∧ o.data = .func fd) ∧ wpAny (model prog w) A (call (.ref a) [u]) Q E s₂) E s₁) E s) :
    wpAny (model prog w) A (eval (.Call (.Name x np) [e] [] pos) env) Q E s := by
  refine wpAny_Call_ofName (wpAny_mono h (fun f s₁ h₁ => ?_) fun _ _ x => x)
  obtain ⟨rfl, h₁⟩ := h₁
  rw [hs]
  refine Calls.callWith_function (fd := fd) (Calls.evalArgs_plain (Calls.spliced_cons (wpAny_mono h₁ (fun _ _ h₂ => Calls.spliced_nil h₂) fun _ _ e => e)))
theorem call_r2 {a : Addr} {o : Obj} {fd : FuncData} (hs : starEach [e, e₂] env = [(false, eval e env), (false, eval e₂ env)])
    (h : wpAny (model prog w) A (eval (.Name x np) env) (fun f s₁ => f = .ref a ∧ wpAny (model prog w) A (eval e env) (fun u s₂ => wpAny (model prog w) A (eval e₂ env) (fun v s₃ => (s₃.heap.get? a = some o ∧ o.data = .func fd) ∧ wpAny (model prog w) A (call (.ref a) [u, v]) Q E s₃) E s₂) E s₁) E s) :
    wpAny (model prog w) A (eval (.Call (.Name x np) [e, e₂] [] pos) env) Q E s := by
  refine wpAny_Call_ofName (wpAny_mono h (fun f s₁ h₁ => ?_) fun _ _ x => x)
  obtain ⟨rfl, h₁⟩ := h₁
  rw [hs]
  refine Calls.callWith_function (fd := fd) (Calls.evalArgs_plain (Calls.spliced_cons (wpAny_mono h₁ (fun _ _ h₁ => Calls.spliced_cons (wpAny_mono h₁ (fun _ _ h₂ => Calls.spliced_nil h₂) fun _ _ e => e)) fun _ _ e => e)))
end

/-- the number that a sum of products is, in halves -/
def NumU (v : Value) (u : Int) : Prop := (∃ n t, v = .int n t ∧ u = 2 * n ∧ (2 * n).natAbs ≤ 2 ^ 53) ∨ ∃ x t, v = .float x t ∧ Is x u

structure Mix (prog : Program) (w : World) (vs us : List Value) (u D : Int) : Prop where
  sp : ∀ {A : Around} {E : Value → Shared → Prop} {s : Shared} {a b : Addr} {Q : Value → Shared → Prop}, A.handled = none → SeqAt s.heap a vs → SeqAt s.heap b us →
    (∀ h' tk v, NumU v u → Kp s.heap h' → Q v { s with heap := h', toks := tk }) → wpAny (model prog w) A (call (.builtin "math.sumprod") [.ref a, .ref b]) Q E s
  fs : ∀ {A : Around} {E : Value → Shared → Prop} {s : Shared} {b : Addr} {Q : Value → Shared → Prop}, A.handled = none → SeqAt s.heap b us →
    (∀ h' tk x t, Is x (2 * D) → Kp s.heap h' → Q (.float x t) { s with heap := h', toks := tk }) → wpAny (model prog w) A (call (.builtin "math.fsum") [.ref b]) Q E s

theorem div_num {prog : Program} {w : World} {A : Around} {E : Value → Shared → Prop} {s : Shared} {v : Value} {u D : Int} {y : UInt64} {t : Tok} {Q : Value → Shared → Prop} (hv : NumU v u) (hy : Is y (2 * D)) (hD : D ≠ 0)
    (h : ∀ x tk t', Is x u → Q (.float (Float64.div x y) t') { s with toks := tk }) : wpAny (model prog w) A (binaryOp .Div v (.float y t)) Q E s := by
  have hz : ¬ Float64.isZero y = true := by
    rw [isZero_iff hy]
    have : ¬ (2 * D = 0) := by omega
    simp [this]
  rcases hv with ⟨n, t', rfl, rfl, hn⟩ | ⟨x, t', rfl, hx⟩
  · exact AutoFloatOps.truediv_if_2 (Flt.fin_of_fits (not_over (by omega))) hz (h _ _ _ (ofInt_is hn))
  · exact AutoFloatOps.truediv_1 hz (h _ _ _ hx)

theorem div_tail {prog : Program} {w : World} {A : Around} {E : Value → Shared → Prop} {s : Shared} {h' : Heap} {L : Addr} {m : Str → Option Value} : True := trivial
end Mine
end

section
set_option maxRecDepth 100000
set_option linter.unusedVariables false
namespace Mine
open PySem PySem.Calls PyProof.Rows PySem.W
local macro_rules | `(tactic| walk_at "mget") => `(tactic| (repeat (first | assumption | exact if_pos rfl | refine (if_neg (by decide)).trans ?_)))

abbrev KpL (L : Addr) (h h' : Heap) : Prop := ∀ c o, c ≠ L → h.get? c = some o → h'.get? c = some o
theorem KpL.refl (L : Addr) (h : Heap) : KpL L h h := fun _ _ _ e => e
theorem KpL.trans {L : Addr} {a b c : Heap} (x : KpL L a b) (y : KpL L b c) : KpL L a c := fun i o n e => y i o n (x i o n e)
theorem KpL.of {L : Addr} {a b : Heap} (x : Kp a b) : KpL L a b := fun i o _ e => x i o e
theorem KpL.but {L : Addr} {a b : Heap} (x : Heap.SameBut L a b) : KpL L a b := fun i o n e => x.extBut i o n e
theorem SeqAt.ne {h : Heap} {a L : Addr} {vs : List Value} {m : Str → Option Value} (x : SeqAt h a vs) (n : h.Ns L m) : a ≠ L := by
  rintro rfl
  obtain ⟨o', es, ep, e', d', _⟩ := n
  rcases x with ⟨o, e, c, k, d⟩ | ⟨o, e, c, k, d⟩ <;> (rw [e] at e'; cases e'; rw [d] at d'; cases d')
theorem SeqAt.keepL {h h' : Heap} {a L : Addr} {vs : List Value} {m : Str → Option Value} (x : SeqAt h a vs) (n : h.Ns L m) (k : KpL L h h') : SeqAt h' a vs := by
  have hne := x.ne n
  rcases x with ⟨o, ho, r⟩ | ⟨o, ho, r⟩
  · exact .inl ⟨o, k _ _ hne ho, r⟩
  · exact .inr ⟨o, k _ _ hne ho, r⟩

section
variable {prog : Program} {w : World} {A : Around} {E : Value → Shared → Prop} {s : Shared} {env : Env} {p : Program} {loose : List Str} {mg mb : Str → Option Value}

theorem raiseS {x : Str} {C : Addr} {B newId initId : String} {bmB : List Value} {msg : Str} {k : Nat} {np kp cpos pos : Pos} {Q : Flow → Shared → Prop} (G : Gd w p loose mg mb s.heap) (hh : A.handled = none)
    (ex : nsIn (hd.heap_39 w.params) mainGlobals x = some (some (.ref C))) (q : excIn (hd.heap_39 w.params) C bmB newId = true) (FB : ExcBaseFacts B newId initId bmB)
    (h : ∀ h' e t tk, Heap.MadeExcOf s.heap h' e (.ref C) [.str msg t] → E (.ref e) { s with heap := h', toks := tk })
    (hk : env.scope.kind = .function := by rfl) (hg : env.globals = mainGlobals := by rfl) (hx : env.kindOf x = some .globalImplicit := by rfl) (hd : (x == ("__debug__" : Str)) = false := by decide) :
    wpAny (model prog w) A (exec (.Raise (some (.Call (.Name x np) [.Constant (.str msg) k kp] [] cpos)) none pos) env) Q E s := by
  obtain ⟨tl, N, nm, qn, bs, hdct, sn, sub, ab, col, dd, k0, k1, k2, k3, k5, mN, hC, hN, hni, T⟩ := (own_of_in G.K G.T ex q).obj
  refine wpAny_Raise_call_subT (C := C) (nm := nm) (q := qn) (N := N) (bs := bs) (bm := tl) (hdct := hdct) (sn := sn) (sub := sub) (ab := ab) (col := col) (dd := dd) (k0 := k0) (k1 := k1) (k2 := k2) (k3 := k3) (k5 := k5)
    FB (mN := mN) (T.hasType FB.hasBase) hh rfl hni (ldg G ex ⟨rfl, ?_⟩ hk hg hx hd)
  show wpAny _ _ (evalArgs (.ref C) true [(false, eval (.Constant (.str msg) k kp) env)] []) _ _ _
  refine Calls.evalArgs_plain (Calls.spliced_cons (wpAny_Constant_str (Calls.spliced_nil ?_)))
  exact ⟨rfl, by show 1 ≤ sizeLine; decide, hC, hN, T, fun h' e hm => h h' e _ _ hm⟩
end

section
variable {prog : Program} {w : World} {A : Around} {E : Value → Shared → Prop} {s : Shared} {p : Program} {loose : List Str} {mg mb : Str → Option Value}
theorem fm_exc : excIn (hd.heap_39 w.params) 52 [.type "ValueError", .type "Exception", .type "BaseException", .type "object"] "ValueError.__new__" = true := by kernel_rfl
def msg0 : Str := "sum of weights must be non-zero"
noncomputable def fmTail : List Stmt := (bodyAt 63).drop 2

theorem fm_tail {L a b : Addr} {hb : Heap} {vs us : List Value} {u D : Int} {m : Str → Option Value} {Q : Flow → Shared → Prop} (hh : A.handled = none) (G : Gd w p loose mg mb hb) (k : Kp hb s.heap) (hL : hb.get? L = none) (hn : s.heap.Ns L m)
    (ma : m "data" = some (.ref a)) (mb' : m "weights" = some (.ref b)) (sa : SeqAt s.heap a vs) (sb : SeqAt s.heap b us) (X : Mix prog w vs us u D)
    (ok : D ≠ 0 → ∀ h' tk t x y, Is x u → Is y (2 * D) → KpL L s.heap h' → Q (.ret (.float (Float64.div x y) t)) { s with heap := h', toks := tk })
    (bad : D = 0 → ∀ h₁ h' tk e t m', KpL L s.heap h₁ → h₁.Ns L m' → Heap.MadeExcOf h₁ h' e (.ref 52) [.str msg0 t] → E (.ref e) { s with heap := h', toks := tk }) :
    wpAny (model prog w) A (execs fmTail (fenv L)) Q E s := by
  refine wpAny_execs_cons (wpAny_Try_except ?_)
  refine wpAny_execs_cons (wpAny_Assign_Name ?_)
  refine call_b2 rfl (ldg (G.keeps k) rfl ⟨rfl, ?_⟩)
  refine ldl hn ma (ldl hn mb' ?_)
  refine X.sp hh sa sb fun h₁ tk₁ v hv k₁ => ?_
  have hn₁ : h₁.Ns L m := hn.keeps k₁
  refine stl hn₁ fun h₂ hn₂ hs₂ => ?_
  dsimp only
  have kl₂ : KpL L s.heap h₂ := (KpL.of k₁).trans (.but hs₂)
  have kp₂ : Kp hb h₂ := kp_but k kl₂ hL
  have sb₂ := sb.keepL hn kl₂
  refine wpAny_execs_nil ?_
  refine wpAny_execs_nil ?_
  refine wpAny_execs_cons (wpAny_Assign_Name ?_)
  refine call_b1 rfl (ldg (G.keeps kp₂) rfl ⟨rfl, ?_⟩)
  refine ldl hn₂ (by walk_at "mget") ?_
  refine X.fs hh sb₂ fun h₃ tk₃ y t hy k₃ => ?_
  have hn₃ : h₃.Ns L _ := hn₂.keeps k₃
  refine stl hn₃ fun h₄ hn₄ hs₄ => ?_
  dsimp only
  have kl₄ : KpL L s.heap h₄ := kl₂.trans ((KpL.of k₃).trans (.but hs₄))
  have kp₄ : Kp hb h₄ := kp_but k kl₄ hL
  refine wpAny_execs_cons (wpAny_If (isTrue_not (isTrue_plain (ldl hn₄ (by walk_at "mget") (truthy_float ?_)))))
  rw [isZero_iff hy]
  by_cases hD : D = 0
  · rw [hD]
    show wpAny _ _ _ _ _ _
    refine wpAny_execs_cons (raiseS (G.keeps kp₄) hh rfl fm_exc PySem.F.excBase_ValueError fun h₅ e t tk hm => ?_)
    exact bad hD h₄ h₅ tk e t _ kl₄ hn₄ hm
  · have hz : ¬ (2 * D = 0) := by omega
    rw [decide_eq_false hz]
    show wpAny _ _ _ _ _ _
    refine wpAny_execs_nil ?_
    refine wpAny_execs_cons (wpAny_Return_some (wpAny_BinOp (ldl hn₄ (by walk_at "mget") (ldl hn₄ (by walk_at "mget") (div_num hv hy hD fun x tk t hx => ?_)))))
    exact ok hD h₄ tk t x y hx hy kl₄
end
end Mine
end

section
set_option maxRecDepth 100000
set_option linter.unusedVariables false
namespace Mine
open PySem PySem.Calls PyProof.Rows PySem.W

theorem slot_li_ga : Slot "list_iterator" "__getattribute__" "object.__getattribute__" :=
  .of (owner := "object") (n := "__getattribute__") (by rw [typeLookup_type, builtinLookup_eq_fast]; kernel_rfl) (by decide +kernel) (by decide +kernel) (by decide +kernel)
    (by first | exact .inl (by decide +kernel) | exact .inr (by decide +kernel)) (by rw [isSubtype_type]; kernel_rfl)
theorem lk_li_class : typeLookup (.type "list_iterator") "__class__" = pure (some (.builtin "object.__class__")) := by rw [typeLookup_type, builtinLookup_eq_fast]; kernel_rfl
theorem sub_li_class_owner : isSubtype (.type "list_iterator") (.type (".".intercalate ("object.__class__".cutAt '.').dropLast)) = pure true := by
  rw [F.owner_object_class, isSubtype_type]; kernel_rfl
theorem sub_li_list : isSubtype (.type "list_iterator") (.type "list") = pure false := by rw [isSubtype_type]; kernel_rfl
theorem sub_li_tuple : isSubtype (.type "list_iterator") (.type "tuple") = pure false := by rw [isSubtype_type]; kernel_rfl

section
variable {prog : Program} {w : World} {A : Around} {E : Value → Shared → Prop} {h : Heap} {g : Array GenState} {d : Drawn} {t : Nat} {os : OsState} {a : Addr} {o : Obj}

theorem class_get_li {R : Result → Shared → Prop} (hx : h.get? a = some o) (hc : o.cls = .type "list_iterator") (hq : R (.ok (.ret (.type "list_iterator"))) ⟨h, g, d, t, os⟩) :
    codeAny (model prog w) A (.call (.builtin "getset_descriptor.__get__") ⟨[.builtin "object.__class__", .ref a, .type "list_iterator"], []⟩) R ⟨h, g, d, t, os⟩ := by
  have hT : (⟨h, g, d, t, os⟩ : Shared).TypeIs (.ref a) "list_iterator" := ⟨_, hx, hc⟩
  have hT5 : (⟨h, g, d, t, os⟩ : Shared).TypeIs (.builtin "object.__class__") "getset_descriptor" := F.typeOf_object_class
  have f8 := sub_li_class_owner
  refine codeAny_call_builtin F.slot_gs_get.plain F.entry_gs_get (F.slot_gs_get.check _ _ _ _ _ _ _ _ hT5 (F.args_gs_get _ _ _) ?_)
  repeat (any_goals (first | assumption | wp_step))
  refine ⟨Code.quiet_builtin _ (by decide +kernel), codeAny_builtin F.entry_object_class ?_⟩
  repeat (any_goals (first | assumption | wp_step))

theorem class_entry_li {tk : Tok} {Q : Fin → Shared → Prop} (hx : h.get? a = some o) (hc : o.cls = .type "list_iterator") (hq : Q (.done (.ret (.type "list_iterator"))) ⟨h, g, d, t, os⟩) :
    wpAny (model prog w) A (Builtin.«object.__getattribute__» ⟨[.ref a, .str "__class__" tk], []⟩) Q E ⟨h, g, d, t, os⟩ := by
  have hT : (⟨h, g, d, t, os⟩ : Shared).TypeIs (.ref a) "list_iterator" := ⟨_, hx, hc⟩
  have hT5 : (⟨h, g, d, t, os⟩ : Shared).TypeIs (.builtin "object.__class__") "getset_descriptor" := F.typeOf_object_class
  have f4 := lk_li_class
  have f5 := F.typeOf_object_class
  have f6 := F.slot_gs_get.lookup
  have f7 := F.slot_gs_set.lookup
  repeat (any_goals (first | assumption | wp_step))
  refine class_get_li hx hc ?_
  repeat (any_goals (first | assumption | wp_step))

theorem class_call_li {tk : Tok} {R : Result → Shared → Prop} (hx : h.get? a = some o) (hc : o.cls = .type "list_iterator") (hq : R (.ok (.ret (.type "list_iterator"))) ⟨h, g, d, t, os⟩) :
    codeAny (model prog w) A (.call (.builtin "object.__getattribute__") ⟨[.ref a, .str "__class__" tk], []⟩) R ⟨h, g, d, t, os⟩ :=
  codeAny_call_builtin slot_li_ga.plain F.entry_object_getattribute (slot_li_ga.check _ _ _ _ _ _ _ _ (show (⟨h, g, d, t, os⟩ : Shared).TypeIs (.ref a) "list_iterator" from ⟨_, hx, hc⟩) (F.args_object_getattribute_2 _ _) (class_entry_li hx hc hq))

theorem class_by_li {tk : Tok} {Q : Value → Shared → Prop} (hx : h.get? a = some o) (hc : o.cls = .type "list_iterator") (hq : Q (.type "list_iterator") ⟨h, g, d, t, os⟩) : wpAny (model prog w) A (getAttrBy (.ref a) (.str "__class__" tk) false) Q E ⟨h, g, d, t, os⟩ := by
  have hT : (⟨h, g, d, t, os⟩ : Shared).TypeIs (.ref a) "list_iterator" := ⟨_, hx, hc⟩
  have f2 := slot_li_ga.lookup
  have f3 := slot_li_ga.bind (.ref a)
  repeat (any_goals (first | assumption | wp_step))
  refine class_call_li hx hc ?_
  repeat (any_goals (first | assumption | wp_step))

theorem class_attr_li {Q : Option Value → Shared → Prop} (hx : h.get? a = some o) (hc : o.cls = .type "list_iterator") (hq : Q (some (.type "list_iterator")) ⟨h, g, d, t + 1, os⟩) : wpAny (model prog w) A (getAttr? (.ref a) "__class__") Q E ⟨h, g, d, t, os⟩ := by
  unfold getAttr? getAttrBy?
  repeat (any_goals (first | assumption | with_reducible apply class_by_li hx hc | wp_step))

theorem nested_false_li {T : String} {dep : Int} {tk : Tok} {Q : Fin → Shared → Prop} (hx : h.get? a = some o) (hc : o.cls = .type "list_iterator") (hne : (Value.type "list_iterator" == Value.type T) = false) (hty : typeOf (.type T) = pure (.type "type"))
    (hsub : isSubtype (.type "list_iterator") (.type T) = pure false) (hq : Q (.done (.ret (.bool false))) ⟨h, g, d, t + 1, os⟩) :
    wpAny (model prog w) A (Builtin.«isinstance.nested» ⟨[.ref a, .type T, .int dep tk], []⟩) Q E ⟨h, g, d, t, os⟩ := by
  have hT : (⟨h, g, d, t, os⟩ : Shared).TypeIs (.ref a) "list_iterator" := ⟨_, hx, hc⟩
  repeat (any_goals (first | assumption | with_reducible apply class_attr_li hx hc | wp_step))
end

theorem ans_false_li {a : Addr} {T : String} (hne : (Value.type "list_iterator" == Value.type T) = false) (hty : typeOf (.type T) = pure (.type "type")) (hsub : isSubtype (.type "list_iterator") (.type T) = pure false) :
    Answers (fun s => s.TypeIs (.ref a) "list_iterator") (.ref a) (.type T) false :=
  fun _ _ _ _ _ _ s hs => by
    obtain ⟨h, g, d, t, os⟩ := s
    obtain ⟨⟨o, hx, hc⟩, hq⟩ := hs
    exact nested_false_li hx hc hne hty hsub (hq (t + 1))

def ltup : List Value := [.type "list", .type "tuple"]
section
variable {prog : Program} {w : World} {A : Around} {E : Value → Shared → Prop} {s : Shared} {Q : Value → Shared → Prop}
theorem isi_list {a tp : Addr} (hx : s.TypeIs (.ref a) "list") (ht : s.heap.get? tp = some { cls := .type "tuple", data := .seq ltup.toArray }) (h : ∀ tk, Q (.bool true) { s with toks := tk }) : wpAny (model prog w) A (call (.builtin "isinstance") [.ref a, .ref tp]) Q E s :=
  IsiPair.tupleOfB (vs := [true, false]) (.cons (.of_true F.isi_meta_list F.sub_list_list) (.cons (.of_false_list (by decide +kernel) F.isi_meta_tuple F.sub_list_tuple) .nil)) hx ht rfl h
theorem isi_tuple {a tp : Addr} (hx : s.TypeIs (.ref a) "tuple") (ht : s.heap.get? tp = some { cls := .type "tuple", data := .seq ltup.toArray }) (h : ∀ tk, Q (.bool true) { s with toks := tk }) : wpAny (model prog w) A (call (.builtin "isinstance") [.ref a, .ref tp]) Q E s :=
  IsiPair.tupleOfB (vs := [false, true]) (.cons (.of_false_tuple (by decide +kernel) F.isi_meta_list F.sub_tuple_list) (.cons (.of_true F.isi_meta_tuple F.sub_tuple_tuple) .nil)) hx ht rfl h
theorem isi_li {a tp : Addr} (hx : s.TypeIs (.ref a) "list_iterator") (ht : s.heap.get? tp = some { cls := .type "tuple", data := .seq ltup.toArray }) (h : ∀ tk, Q (.bool false) { s with toks := tk }) : wpAny (model prog w) A (call (.builtin "isinstance") [.ref a, .ref tp]) Q E s :=
  IsiPair.tupleOfB (vs := [false, false]) (.cons (ans_false_li (by decide +kernel) F.isi_meta_list sub_li_list) (.cons (ans_false_li (by decide +kernel) F.isi_meta_tuple sub_li_tuple) .nil)) hx ht rfl h
end
end Mine
end

section
set_option maxRecDepth 100000
set_option linter.unusedVariables false
namespace Mine
open PySem PySem.Calls PyProof.Rows PySem.W
open AutoSeq1 (wpAny_loadPart')

/-- a fresh iterator over a list -/
structure LiAt (h : Heap) (I b : Addr) (us : List Value) : Prop where
  it : h.IsListIter I b 0
  li : h.IsList b us.toArray
theorem LiAt.ne {h : Heap} {I b : Addr} {us : List Value} (x : LiAt h I b us) : b ≠ I := by
  rintro rfl
  obtain ⟨⟨o, ho, _, d⟩, ⟨o', ho', _, _, d'⟩⟩ := x
  rw [ho] at ho'; cases ho'; rw [d] at d'; cases d'
theorem LiAt.keeps {h h' : Heap} {I b : Addr} {us : List Value} (x : LiAt h I b us) (k : Kp h h') : LiAt h' I b us := by
  obtain ⟨⟨o, ho, r⟩, ⟨o', ho', r'⟩⟩ := x
  exact ⟨⟨o, k _ _ ho, r⟩, ⟨o', k _ _ ho', r'⟩⟩

section
variable {prog : Program} {w : World} {A : Around} {E : Value → Shared → Prop} {s : Shared}

theorem li_extend {R : Result → Shared → Prop} {I b : Addr} {us : List Value} (hh : A.handled = none) (L : LiAt s.heap I b us) (hlen : us.length ≤ 2 ^ 24) (S : Addr) (hSI : S ≠ I) (hSb : S ≠ b) (res : Value) (c₀ : Nat) (hS : s.heap.get? S = some { cls := .type "list", data := .seq #[] c₀ })
    (hR : ∀ h' tk acc' c', (∀ c o, c ≠ S → c ≠ I → s.heap.get? c = some o → h'.get? c = some o) → h'.get? S = some { cls := .type "list", dict := none, data := .seq acc' c', slots := #[] } →
      ItemsOf (fun i v => us.toArray[i]? = some v) acc' us.toArray.size → R (.ok (.ret res)) { s with heap := h', toks := tk }) :
    wpAny (model prog w) A.in1 (Builtin.List.listExtendWith (.ref S) (.ref I) res)
      (fun fin s' => match fin with | .done f => R (.ok f) s' | .again c' => c'.quiet = true ∧ codeAny (model prog w) A c' R s') (fun e s' => R (.error e) s') s := by
  have W := (Walks.list (prog := prog) (w := w) (A := A.in1) hh I b L.ne us.toArray).toS
  have hSf : S ∉ [I, b] := by
    intro hm
    simp only [List.mem_cons, List.not_mem_nil, or_false] at hm
    rcases hm with e | e
    · exact hSI e
    · exact hSb e
  have hT := L.it.typeIs
  have hsz : us.toArray.size ≤ sizeLine := by rw [sizeLine_eq, List.size_toArray]; omega
  have h1 : Builtin.List.listSameRef (.ref S) (.ref I) = false := by simp [Builtin.List.listSameRef, hSI]
  unfold Builtin.List.listExtendWith
  refine wpAny_bind (wpAny_typeOf hT ?_)
  rw [if_neg (by rw [h1]; decide)]
  refine wpAny_bind (W.self 0 _ _ _ ⟨L.it, L.li⟩ ?_)
  refine wpAny_bind (wpAny_holding ?_)
  unfold Builtin.List.listLengthHint
  refine wpAny_bind (wpAny_specialOf hT F.nolen_li ?_)
  show wpAny _ A.in1 (specialOf (Value.ref I) (Str.ofString "__length_hint__") >>= _) _ _ _
  refine wpAny_bind (wpAny_specialOf hT F.hint_li ?_)
  generalize hid : ("list_iterator.__length_hint__" : String) = id0
  wp_delta
  rw [show splitId id0 = some ("list_iterator", "__length_hint__") from by subst hid; decide +kernel]
  subst hid
  refine wpAny_bind (wpAny_isInstance (b := true) hT (by rw [isSubtype_type]; kernel_rfl) ?_)
  refine wpAny_pure ?_
  rw [if_neg (by decide)]
  refine wpAny_pure ⟨plainId_quiet F.plain_extend_loop _, codeAny_extend_loopS W hsz _ hSf _ us.toArray.size 0 _ _ _ rfl (Nat.zero_le _) ⟨L.it, L.li⟩ hS (ItemsOf.nil _) fun s' acc' c' hm hS' hacc => ?_⟩
  rw [Moved.eq_with hm]
  refine hR s'.heap s'.toks acc' c' (fun c o hb hc e => hm.heap c o (fun hmem => ?_) e) hS' hacc
  rcases List.mem_cons.mp hmem with e' | hmem
  · exact hb e'
  · exact hc (List.mem_singleton.mp hmem)

theorem items_eq {us : List Value} {acc : Array Value} (h : ItemsOf (fun i v => us.toArray[i]? = some v) acc us.toArray.size) : acc = us.toArray := by
  refine Array.ext h.1 fun i h1 h2 => ?_
  have := h.2 i acc[i] (by simp [h1])
  dsimp only at this
  rw [Array.getElem?_eq_getElem h2] at this
  exact (Option.some.inj this).symm

theorem li_init {R : Result → Shared → Prop} {I b : Addr} {us : List Value} (hh : A.handled = none) (L : LiAt s.heap I b us) (hlen : us.length ≤ 2 ^ 24) (S : Addr) (hSI : S ≠ I) (hSb : S ≠ b) (hS : s.heap.get? S = some { cls := .type "list", data := .seq #[] })
    (hR : ∀ h' tk c', (∀ c o, c ≠ S → c ≠ I → s.heap.get? c = some o → h'.get? c = some o) → h'.get? S = some { cls := .type "list", dict := none, data := .seq us.toArray c', slots := #[] } → R (.ok (.ret .none)) { s with heap := h', toks := tk }) :
    wpAny (model prog w) A.in1 (Builtin.«list.__init__» ⟨[.ref S, .ref I], []⟩)
      (fun fin s' => match fin with | .done f => R (.ok f) s' | .again c' => c'.quiet = true ∧ codeAny (model prog w) A c' R s') (fun e s' => R (.error e) s') s := by
  show wpAny _ _ (do let old ← Builtin.List.listItems (.ref S); Builtin.List.listUpdate (.ref S) (fun _ => #[]); letGo old.toList.reverse; Builtin.List.listExtendWith (.ref S) (.ref I) .none) _ _ s
  refine wpAny_bind ?_
  unfold Builtin.List.listItems
  refine wpAny_bind (wpAny_seqItems hS rfl (wpAny_pure ?_))
  show wpAny _ _ (updateSeq S (fun _ => #[]) >>= fun _ => letGo (#[] : Array Value).toList.reverse >>= fun _ => Builtin.List.listExtendWith (.ref S) (.ref I) .none) _ _ s
  refine wpAny_bind (wpAny_updateSeq hS rfl ?_)
  have hS₂ := Heap.get?_update_self (Obj.mapSeq (fun _ => (#[] : Array Value))) hS rfl
  have oth : ∀ b o, b ≠ S → s.heap.get? b = some o → (s.heap.update S (Obj.mapSeq (fun _ => (#[] : Array Value)))).get? b = some o :=
    fun b o hb e => (Heap.get?_update_other _ _ (Ne.symm hb)).trans e
  have L₂ : LiAt (s.heap.update S (Obj.mapSeq (fun _ => (#[] : Array Value)))) I b us := by
    obtain ⟨⟨o, ho, r⟩, ⟨o', ho', r'⟩⟩ := L
    exact ⟨⟨o, oth _ _ (Ne.symm hSI) ho, r⟩, ⟨o', oth _ _ (Ne.symm hSb) ho', r'⟩⟩
  refine wpAny_bind (wpAny_letGo ?_)
  refine li_extend hh L₂ hlen S hSI hSb .none _ hS₂ fun h' tk acc' c' hk hS' hacc => ?_
  rw [items_eq hacc] at hS'
  exact hR h' tk c' (fun c o hb hc e => hk c o hb hc (oth c o hb e)) hS'

theorem call_list_li {Q : Value → Shared → Prop} {I b : Addr} {us : List Value} (hh : A.handled = none) (L : LiAt s.heap I b us) (hlen : us.length ≤ 2 ^ 24)
    (hQ : ∀ h' tk S, S ≠ I → s.heap.get? S = none → (∀ c o, c ≠ I → s.heap.get? c = some o → h'.get? c = some o) → h'.IsList S us.toArray → Q (.ref S) { s with heap := h', toks := tk }) :
    wpAny (model prog w) A (call (.type "list") [.ref I]) Q E s := by
  refine callType_codes (Q₁ := fun obj s₁ => obj = .ref s.heap.objs.size ∧ s₁ = { s with heap := s.heap.push { cls := .type "list", data := .seq #[] } }) F.called_list (F.typeCall_list_1 _) F.entry_list_init
    (code_list_new _ ⟨rfl, rfl⟩) fun obj s₁ h₁ => ?_
  obtain ⟨rfl, rfl⟩ := h₁
  have hS : (s.heap.push { cls := .type "list", data := .seq #[] }).get? s.heap.objs.size = some { cls := .type "list", data := .seq #[] } := Heap.get?_push_size _ rfl
  have hSI : s.heap.objs.size ≠ I := by obtain ⟨⟨o, ho, _⟩, _⟩ := L; exact (Nat.ne_of_lt (Heap.lt_size ho)).symm
  have hSb : s.heap.objs.size ≠ b := by obtain ⟨_, ⟨o, ho, _⟩⟩ := L; exact (Nat.ne_of_lt (Heap.lt_size ho)).symm
  refine ⟨⟨_, hS, rfl⟩, F.args_list_init_2 _ _, li_init (A := A.in1) hh (L.keeps (Kp.push _ _)) hlen _ hSI hSb hS fun h' tk c' hk hS' => ?_⟩
  exact ⟨rfl, hQ h' tk _ hSI (Heap.get?_none_of_le (Nat.le_refl _)) (fun c o hc e => hk c o (Nat.ne_of_lt (Heap.lt_size e)) hc (Heap.get?_push_of_some _ e)) ⟨_, hS', rfl, _, rfl⟩⟩
end
end Mine
end

section
set_option maxRecDepth 100000
set_option linter.unusedVariables false
namespace Mine
open PySem PySem.Calls PyProof.Rows PySem.W
local macro_rules | `(tactic| walk_at "mget") => `(tactic| (repeat (first | assumption | exact if_pos rfl | refine (if_neg (by decide)).trans ?_)))

section
variable {prog : Program} {w : World} {A : Around} {E : Value → Shared → Prop} {s : Shared} {p : Program} {loose : List Str} {mg mb : Str → Option Value}

/-- the two ifs ahead of the tail; what weights is then -/
theorem fm_head {L b : Addr} {hb : Heap} {bo : Bool} {m : Str → Option Value} {Q : Flow → Shared → Prop} (G : Gd w p loose mg mb hb) (k : Kp hb s.heap) (hn : s.heap.Ns L m)
    (mb' : m "weights" = some (.ref b))
    (isi : ∀ {A : Around} {E : Value → Shared → Prop} {s' : Shared} {tp : Addr} {Q : Value → Shared → Prop}, Kp s.heap s'.heap → s'.heap.get? tp = some { cls := .type "tuple", data := .seq ltup.toArray } → (∀ tk, Q (.bool bo) { s' with toks := tk }) → wpAny (model prog w) A (call (.builtin "isinstance") [.ref b, .ref tp]) Q E s')
    (h : ∀ h' tk, Kp s.heap h' → if bo then wpAny (model prog w) A (execs fmTail (fenv L)) Q E { s with heap := h', toks := tk } else
      wpAny (model prog w) A (call (.type "list") [.ref b]) (fun v s₂ => wpAny (model prog w) A (storeName (fenv L) "weights" v) (fun _ s₃ => wpAny (model prog w) A (execs fmTail (fenv L)) Q E s₃) E s₂) E { s with heap := h', toks := tk }) :
    wpAny (model prog w) A (execs (bodyAt 63) (fenv L)) Q E s := by
  refine wpAny_execs_cons (wpAny_If (wpAny_isTrue_Compare1 (ldl hn mb' (wpAny_Constant_none (is_ref_none (wpAny_truthy_bool ?_))))))
  show wpAny _ _ _ _ _ _
  refine wpAny_execs_nil ?_
  refine wpAny_execs_cons (wpAny_If (isTrue_not (isTrue_plain ?_)))
  refine call_b2 rfl (ldb (G.keeps k) rfl PyProof.Rows.Boot.«isinstance» ⟨rfl, ?_⟩)
  refine ldl hn mb' ?_
  refine Tuple_ (spliced_more (ldb (G.keeps k) rfl PyProof.Rows.Boot.«list» (spliced_more (ldb (G.keeps k) rfl PyProof.Rows.Boot.«tuple» (spliced_none ?_)))))
  unfold newTuple
  refine wpAny_newObj_type ?_ (by show 2 ≤ sizeLine; decide)
  refine isi (Kp.push _ _) (Heap.get?_push_size _ rfl) fun tk => ?_
  refine wpAny_truthy_bool ?_
  dsimp only
  have hh := h (s.heap.push { cls := .type "tuple", data := .seq ltup.toArray }) tk (Kp.push _ _)
  cases bo with
  | true =>
    show wpAny _ _ _ _ _ _
    refine wpAny_execs_nil ?_
    exact hh
  | false =>
    show wpAny _ _ _ _ _ _
    refine wpAny_execs_cons (wpAny_Assign_Name ?_)
    refine call_t1 rfl (ldb (G.keeps (k.trans (Kp.push _ _))) rfl PyProof.Rows.Boot.«list» ⟨rfl, ?_⟩)
    refine ldl (hn.push _) mb' ?_
    refine wpAny_mono hh (fun v s₂ h₂ => ?_) fun _ _ x => x
    refine wpAny_mono h₂ (fun _ s₃ h₃ => ?_) fun _ _ x => x
    exact wpAny_execs_nil h₃
end
end Mine
end

section
set_option maxRecDepth 100000
set_option linter.unusedVariables false
namespace Mine
open PySem PySem.Calls PyProof.Rows PySem.W
local macro_rules | `(tactic| walk_at "mget") => `(tactic| (repeat (first | assumption | exact if_pos rfl | refine (if_neg (by decide)).trans ?_)))

abbrev Kw (wr : List Addr) (h h' : Heap) : Prop := ∀ c o, c ∉ wr → h.get? c = some o → h'.get? c = some o
inductive WArg (h : Heap) (b : Addr) (us : List Value) : List Addr → Prop
  | seq (x : SeqAt h b us) : WArg h b us []
  | li (l : Addr) (x : LiAt h b l us) : WArg h b us [b]

section
variable {prog : Program} {w : World} {A : Around} {E : Value → Shared → Prop} {s : Shared} {p : Program} {loose : List Str} {mg mb : Str → Option Value}

theorem seq_type {a : Addr} {vs : List Value} (x : SeqAt s.heap a vs) : s.TypeIs (.ref a) "list" ∨ s.TypeIs (.ref a) "tuple" := by
  rcases x with ⟨o, ho, hc, _⟩ | ⟨o, ho, hc, _⟩
  · exact .inl ⟨o, ho, hc⟩
  · exact .inr ⟨o, ho, hc⟩

theorem fm_walk {L a b : Addr} {wr : List Addr} {hb : Heap} {vs us : List Value} {u D : Int} {m : Str → Option Value} {Q : Flow → Shared → Prop} (hh : A.handled = none) (G : Gd w p loose mg mb hb) (k : Kp hb s.heap) (hL : hb.get? L = none) (hn : s.heap.Ns L m)
    (ma : m "data" = some (.ref a)) (mb' : m "weights" = some (.ref b)) (sa : SeqAt s.heap a vs) (wb : WArg s.heap b us wr) (hbw : ∀ c ∈ wr, hb.get? c = none) (hlen : us.length ≤ 2 ^ 24) (X : Mix prog w vs us u D)
    (ok : D ≠ 0 → ∀ h' tk t x y, Is x u → Is y (2 * D) → Kw (L :: wr) s.heap h' → Q (.ret (.float (Float64.div x y) t)) { s with heap := h', toks := tk })
    (bad : D = 0 → ∀ h₁ h' tk e t m', Kw (L :: wr) s.heap h₁ → h₁.Ns L m' → Heap.MadeExcOf h₁ h' e (.ref 52) [.str msg0 t] → E (.ref e) { s with heap := h', toks := tk }) :
    wpAny (model prog w) A (execs (bodyAt 63) (fenv L)) Q E s := by
  cases wb with
  | seq sb =>
    have fin : ∀ {h h' : Heap}, Kp s.heap h → KpL L h h' → Kw [L] s.heap h' := fun k1 k2 c o hc e => k2 c o (fun q => hc (by rw [q]; exact .head _)) (k1 c o e)
    refine fm_head (bo := true) G k hn mb' (fun {A E s' tp Q} k' ht hq => ?_) fun h' tk k' => ?_
    · have sb' : SeqAt s'.heap b us := sb.keeps k'
      rcases seq_type sb' with hT | hT
      · exact isi_list hT ht hq
      · exact isi_tuple hT ht hq
    · refine fm_tail hh G (k.trans k') hL (hn.keeps k') ma mb' (sa.keeps k') (sb.keeps k') X (fun hD h₂ tk t x y hx hy k₂ => ?_) fun hD h₁ h₂ tk e t m' k₁ hn₁ hm => ?_
      · exact ok hD h₂ tk t x y hx hy (fin k' k₂)
      · exact bad hD h₁ h₂ tk e t m' (fin k' k₁) hn₁ hm
  | li l lb =>
    have hab : a ≠ b := by
      rintro rfl
      obtain ⟨⟨o', ho', hc', _⟩, _⟩ := lb
      rcases sa with ⟨o, ho, hc, _⟩ | ⟨o, ho, hc, _⟩ <;> (rw [ho] at ho'; cases ho'; rw [hc] at hc'; injection hc' with q; exact absurd q (by decide))
    have hbL : b ≠ L := by
      rintro rfl
      obtain ⟨⟨o', ho', _, hd'⟩, _⟩ := lb
      obtain ⟨o, es, ep, ho, hd, _⟩ := hn
      rw [ho] at ho'; cases ho'; rw [hd] at hd'; cases hd'
    refine fm_head (bo := false) G k hn mb' (fun {A E s' tp Q} k' ht hq => isi_li (lb.keeps k').it.typeIs ht hq) fun h' tk k' => ?_
    show wpAny _ _ _ _ _ _
    refine call_list_li hh (lb.keeps k') hlen fun h₂ tk₂ S hSI hS k₂ l₂ => ?_
    dsimp only
    have hn₂ : h₂.Ns L m := (hn.keeps k').at' fun o e => k₂ L o (Ne.symm hbL) e
    refine stl hn₂ fun h₃ hn₃ hs₃ => ?_
    have hSL : S ≠ L := by
      rintro rfl
      obtain ⟨o, es, ep, ho, _⟩ := hn.keeps k'
      dsimp only at hS
      rw [ho] at hS; cases hS
    have kk : ∀ c o, c ≠ L → c ≠ b → s.heap.get? c = some o → h₃.get? c = some o := fun c o n1 n2 e => hs₃.extBut c o n1 (k₂ c o n2 (k' c o e))
    have sa₃ : SeqAt h₃ a vs := by
      have hne := sa.ne hn
      rcases sa with ⟨o, ho, r⟩ | ⟨o, ho, r⟩
      · exact .inl ⟨o, kk _ _ hne hab ho, r⟩
      · exact .inr ⟨o, kk _ _ hne hab ho, r⟩
    have sb₃ : SeqAt h₃ S us := by
      obtain ⟨o, ho, r⟩ := l₂
      exact .inl ⟨o, hs₃.extBut S o hSL ho, r⟩
    have kp₃ : Kp hb h₃ := fun c o e => kk c o (fun q => by rw [q, hL] at e; cases e) (fun q => by rw [q, hbw b (.head _)] at e; cases e) (k c o e)
    have fin : ∀ {h' : Heap}, KpL L h₃ h' → Kw [L, b] s.heap h' := fun k2 c o hc e => k2 c o (fun q => hc (by rw [q]; exact .head _)) (kk c o (fun q => hc (by rw [q]; exact .head _)) (fun q => hc (by rw [q]; exact .tail _ (.head _))) e)
    refine fm_tail hh G kp₃ hL hn₃ (by walk_at "mget") (by walk_at "mget") sa₃ sb₃ X (fun hD h₂ tk t x y hx hy k₂ => ?_) fun hD h₁ h₂ tk e t m' k₁ hn₁ hm => ?_
    · exact ok hD h₂ tk t x y hx hy (fin k₂)
    · exact bad hD h₁ h₂ tk e t m' (fin k₁) hn₁ hm

theorem WArg.keeps {h h' : Heap} {b : Addr} {us : List Value} {wr : List Addr} (x : WArg h b us wr) (k : Kp h h') : WArg h' b us wr := by
  cases x with
  | seq x => exact .seq (x.keeps k)
  | li l x => exact .li l (x.keeps k)
theorem WArg.wlt {h : Heap} {b : Addr} {us : List Value} {wr : List Addr} (x : WArg h b us wr) : ∀ c ∈ wr, c < h.objs.size := by
  cases x with
  | seq x => intro c hc; cases hc
  | li l x =>
    intro c hc
    rw [List.mem_singleton.mp hc]
    obtain ⟨⟨o, ho, _⟩, _⟩ := x
    exact Heap.lt_size ho

theorem WArg.fields {h : Heap} {b : Addr} {us : List Value} {wr : List Addr} (x : WArg h b us wr) : ∀ c ∈ wr, ∀ o, h.get? c = some o → ∃ ws, o.data = .fields ws := by
  cases x with
  | seq x => intro c hc; cases hc
  | li l x =>
    intro c hc o ho
    rw [List.mem_singleton.mp hc] at ho
    obtain ⟨⟨o', ho', _, hd⟩, _⟩ := x
    rw [ho] at ho'; cases ho'
    exact ⟨_, hd⟩
theorem WArg.slots {h h' : Heap} {b : Addr} {us : List Value} {wr : List Addr} (x : WArg h b us wr) (k : Kw wr h h') : h.UpToSlots h' := fun c o e hf =>
  ⟨o.slots, k c o (fun q => (x.fields c q o e).elim fun ws hw => hf ws hw) e⟩

/-- fmean by contract -/
theorem fm_spec {a b : Addr} {wr : List Addr} {hb B : Heap} {outer : List Env} {vs us : List Value} {u D : Int} {Q : Value → Shared → Prop} (hh : A.handled = none) (hroom : A.depth < recursionLimit) (G : Gd w p loose mg mb hb) (k : Kp hb s.heap)
    (sa : SeqAt s.heap a vs) (wb : WArg s.heap b us wr) (hbw : ∀ c ∈ wr, hb.get? c = none) (hlen : us.length ≤ 2 ^ 24) (X : Mix prog w vs us u D)
    (hfr : A.frames = some outer) (hB : B.StaysIn s.heap) (hBf : s.heap.FunFrames B outer) (hBw : ∀ c ∈ wr, B.get? c = none)
    (ok : D ≠ 0 → ∀ h' tk t x y, Is x u → Is y (2 * D) → Kw wr s.heap h' → Q (.float (Float64.div x y) t) { s with heap := h', toks := tk })
    (bad : D = 0 → ∀ h₁ h' tk e t k, Kw wr s.heap h₁ → h₁.UpToSlots h' → Heap.FlyingW B outer e (.ref 52) (.ref t) h' → h'.TupAt t [.str msg0 k] → B.get? t = none → E (.ref e) { s with heap := h', toks := tk }) :
    wpAny (model prog w) A (call (.ref 63) [.ref a, .ref b]) Q E s := by
  refine fm_enter hroom (G.keeps k) fun h₀ tk hn k₀ => ?_
  have fin : ∀ {h' : Heap}, Kw (s.heap.objs.size :: wr) h₀ h' → Kw wr s.heap h' := fun k2 c o hc e => k2 c o (fun q => by
    rcases List.mem_cons.mp q with q | q
    · exact Nat.ne_of_lt (Heap.lt_size e) q
    · exact hc q) (k₀ c o e)
  have hLB : ∀ {h : Heap}, h.StaysIn s.heap → h.get? s.heap.objs.size = none := fun {h} st => none_of_size (hb := h) st
  refine fm_walk (s := { s with heap := h₀, toks := tk }) hh G (k.trans k₀) (none_of_size k) hn (by rfl) (by rfl) (sa.keeps k₀) (wb.keeps k₀) hbw hlen X (fun hD h' tk t x y hx hy k' => ?_) fun hD h₁ h' tk e t m' k' hn₁ hm => ?_
  · exact ok hD h' tk t x y hx hy (fin k')
  · have kk := fin k'
    refine wpAny_leaves_madeW (base := B) (h := h₁) (outer := outer) (L := s.heap.objs.size) (Around.frames_deeper hfr) rfl (fun c o e => kk c o (fun q => by rw [hBw c q] at e; cases e) (hB c o e)) ?_ hm fun h₂ t₂ x1 x2 x3 x4 => ?_
    · refine .cons (by show (fdAt 63).scope.kind ≠ .module; decide) rfl hn₁ (hLB hB) ?_
      exact hBf.of_keeps fun c o e hf => ⟨o, kk c o (fun q => (wb.fields c q o e).elim fun ws hw => hf ws hw) e, rfl⟩
    · exact bad hD h₁ h₂ tk e t₂ t kk ((Heap.UpToSlots.of_keeps hm.keeps).trans x4) x1 x2 x3
end
end Mine
end

section
set_option maxRecDepth 100000
set_option linter.unusedVariables false
namespace Mine
open PySem PySem.Calls PyProof.Rows PySem.W
local macro_rules | `(tactic| walk_at "mget") => `(tactic| (repeat (first | assumption | exact if_pos rfl | refine (if_neg (by decide)).trans ?_)))

abbrev bmV : List Value := [.type "ValueError", .type "Exception", .type "BaseException", .type "object"]
theorem cls52 {w : World} {h : Heap} (K : (hd.heap_39 w.params).In h) : ∃ nm q bs hdct sn sub ab col dd k0 k1 k2 k3 k5, h.get? 52 = some (excClassObj nm q 52 51 bs bmV hdct sn sub ab col dd k0 k1 k2 k3 k5 "ValueError.__new__") :=
  ⟨_, _, _, _, _, _, _, _, _, _, _, _, _, _, K 52 _ rfl⟩
theorem ns51_ok {w : World} : nsOkIn (hd.heap_39 w.params) 51 = true := by kernel_rfl
theorem ns51 {w : World} : ∀ n ∈ quietNames, nsIn (hd.heap_39 w.params) 51 n = some none := by
  intro n hn
  simp only [quietNames, List.mem_cons, List.not_mem_nil, or_false] at hn
  rcases hn with rfl | rfl | rfl | rfl <;> kernel_rfl

section
variable {prog : Program} {w : World} {A : Around} {E : Value → Shared → Prop} {s : Shared}
/-- error.args of the exception that fmean raises -/
theorem args52 {a t0 : Addr} {o : Obj} {vs : Array Value} {expr : Bool} {Q : Value → Shared → Prop} (K : (hd.heap_39 w.params).In s.heap) (hx : s.heap.get? a = some o) (hc : o.cls = .ref 52) (hd' : o.data = .fields vs) (h0 : vs[0]? = some (.ref t0))
    (hq : Q (.ref t0) { s with toks := s.toks + 1 }) : wpAny (model prog w) A (getAttr (.ref a) "args" expr) Q E s := by
  obtain ⟨nm, q, bs, hdct, sn, sub, ab, col, dd, k0, k1, k2, k3, k5, hC⟩ := cls52 K
  obtain ⟨h, g, d, t, os⟩ := s
  exact args_attr_own (B := "ValueError") (newId := "ValueError.__new__") (bm := bmV) PySem.F.attrBase_ValueError hC (.of_isNs (isNs_of_in K ns51_ok)) (fun n hn => nsMap_none_of_in K ns51_ok (ns51 n hn)) .base hx hc hd' h0 hq
end
end Mine
end

section
set_option maxRecDepth 100000
set_option linter.unusedVariables false
namespace Mine
open PySem PySem.Calls PyProof.Rows PySem.W
local macro_rules | `(tactic| walk_at "mget") => `(tactic| (repeat (first | assumption | exact if_pos rfl | refine (if_neg (by decide)).trans ?_)))

section
variable {prog : Program} {w : World} {A : Around} {s : Shared} {p : Program} {loose : List Str} {mg mb : Str → Option Value}

abbrev KwL (L : Addr) (wr : List Addr) (h h' : Heap) : Prop := ∀ c o, c ≠ L → c ∉ wr → h.get? c = some o → h'.get? c = some o

theorem told_walk {L Lw a b : Addr} {wr : List Addr} {hb : Heap} {le : Env} {vs us : List Value} {u D : Int} {m : Str → Option Value} {h₀ : Heap} {Q : Flow → Shared → Prop} (hh : A.handled = none) (hroom : A.depth + 1 < recursionLimit) (G : Gd w p loose mg mb hb) (k : Kp hb h₀) (hL : hb.get? Lw = none)
    (hfr : A.frames = some [le]) (hle : le.frame = some Lw) (hkm : le.scope.kind ≠ .module) (hns : h₀.Ns Lw m) (sa : SeqAt h₀ a vs) (wb : WArg h₀ b us wr) (hbw : ∀ c ∈ wr, hb.get? c = none) (hlen : us.length ≤ 2 ^ 24) (X : Mix prog w vs us u D)
    (hLn : h₀.get? L = none) (k₁ : Kp h₀ s.heap) (hn : s.heap.Ns L (two1 (.ref a) (.ref b)))
    (ok : D ≠ 0 → ∀ h' tk t x y, Is x u → Is y (2 * D) → KwL Lw wr h₀ h' → h'.Ns Lw m → Q (.ret (.float (Float64.div x y) t)) { s with heap := h', toks := tk })
    (bad : D = 0 → ∀ h' tk t k, KwL Lw wr h₀ h' → h'.Ns Lw m → h'.TupAt t [.str msg0 k] → Q (.ret (.ref t)) { s with heap := h', toks := tk }) :
    wpAny (model prog w) (A.deeper (tenv L)) (execs (bodyAt 70) (tenv L)) Q (fun _ _ => False) s := by
  have hLw : Lw ∉ wr := fun hm => by
    obtain ⟨o, es, ep, ho, hd, _⟩ := hns
    obtain ⟨ws, q⟩ := wb.fields Lw hm o ho
    rw [q] at hd; cases hd
  have hLL : Lw ≠ L := by
    rintro rfl
    obtain ⟨o, es, ep, ho, hd, _⟩ := hns
    rw [ho] at hLn; cases hLn
  have hLwr : L ∉ wr := fun hm => by
    have := wb.wlt L hm
    obtain ⟨o, es, ep, ho, hd, _⟩ := hn
    cases wb with
    | seq => cases hm
    | li l x =>
      rw [List.mem_singleton] at hm
      subst hm
      obtain ⟨⟨o', ho', _⟩, _⟩ := x
      rw [ho'] at hLn; cases hLn
  have hBs : (hideAll h₀ (Lw :: wr)).StaysIn h₀ := fun c o e => of_hideAll _ e
  have hBL : (hideAll h₀ (Lw :: wr)).get? L = none := by
    cases q : (hideAll h₀ (Lw :: wr)).get? L with
    | none => rfl
    | some o => have := of_hideAll _ q; rw [hLn] at this; cases this
  have kb : Kp hb (hideAll h₀ (Lw :: wr)) := fun c o e => hideAll_get _ (k c o e) fun hm => by
    rcases List.mem_cons.mp hm with q | q
    · rw [q, hL] at e; cases e
    · rw [hbw c q] at e; cases e
  have kB : ∀ {h' : Heap}, (hideAll h₀ (Lw :: wr)).StaysIn h' → KwL Lw wr h₀ h' := fun st c o n1 n2 e => st c o (hideAll_get _ e fun hm => by
    rcases List.mem_cons.mp hm with q | q
    · exact n1 q
    · exact n2 q)
  have hbL : hb.get? L = none := by
    cases q : hb.get? L with
    | none => rfl
    | some o => have := k _ _ q; rw [hLn] at this; cases this
  have hfr' : (A.deeper (tenv L)).frames = some [tenv L, le] := Around.frames_deeper hfr
  refine wpAny_execs_cons (wpAny_Try_except ?_)
  refine wpAny_execs_cons (wpAny_Assign_Name ?_)
  obtain ⟨o63, ho63, hd63⟩ := fm_in (G.keeps (k.trans k₁)).K
  refine call_r2 (fd := fdAt 63) (o := o63) (a := 63) rfl (ldg (G.keeps (k.trans k₁)) rfl ⟨rfl, ?_⟩)
  refine ldl hn (by rfl) (ldl hn (by rfl) ⟨⟨ho63, hd63⟩, ?_⟩)
  refine fm_spec (B := hideAll h₀ (Lw :: wr)) (outer := [tenv L, le]) (u := u) (D := D) hh hroom G (k.trans k₁) (sa.keeps k₁) (wb.keeps k₁) hbw hlen X hfr' (Kp.trans hBs k₁) ?_ (fun c hc => hideAll_none _ (.tail _ hc)) ?_ ?_
  · refine .cons (by show (fdAt 70).scope.kind ≠ .module; decide) rfl hn hBL ?_
    exact .cons hkm hle (hns.keeps k₁) (hideAll_none _ (.head _)) trivial
  · intro hD h' tk t x y hx hy kw
    have hn' : h'.Ns L (two1 (.ref a) (.ref b)) := hn.at' fun o e => kw L o hLwr e
    dsimp only
    refine stl hn' fun h₂ hn₂ hs₂ => ?_
    dsimp only
    have kk : ∀ c o, c ∉ wr → h₀.get? c = some o → h₂.get? c = some o := fun c o n e => hs₂.extBut c o (fun q => by rw [show c = L from q, hLn] at e; cases e) (kw c o n (k₁ c o e))
    have kh : Kp hb h₂ := fun c o e => kk c o (fun q => by rw [hbw c q] at e; cases e) (k c o e)
    refine wpAny_execs_nil ?_
    dsimp only
    refine wpAny_execs_nil ?_
    refine wpAny_execs_cons (wpAny_Return_some (wpAny_IfExp (wpAny_isTrue_Compare1 ?_)))
    refine call_t1 rfl (ldb (G.keeps kh) rfl PyProof.Rows.Boot.«type» ⟨rfl, ?_⟩)
    refine ldl hn₂ (by walk_at "mget") ?_
    refine call_type_of (Tx := "float") rfl (by decide) ?_
    refine ldb (G.keeps kh) rfl PyProof.Rows.Boot.«float» ?_
    refine wpAny_is_self rfl (wpAny_truthy_bool ?_)
    show wpAny _ _ _ _ _ _
    refine ldl hn₂ (by walk_at "mget") ?_
    exact ok hD h₂ _ t x y hx hy (fun c o n1 n2 e => kk c o n2 e) (hns.at' fun o e => kk Lw o hLw e)
  · intro hD h₁ h' tk e t kt kw sm hfl htup htn
    have sm₀ : h₀.UpToSlots h' := ((Heap.UpToSlots.of_keeps k₁).trans ((wb.keeps k₁).slots kw)).trans sm
    refine wpAny_looks_onW hfr' rfl hfl fun h₄ hheld₄ hsm₄ => ?_
    refine wpAny_landsW hheld₄ fun h₅ hheld hsm₅ => ?_
    dsimp only at hsm₄ hsm₅ ⊢
    obtain ⟨ob, hob, hobc⟩ := hheld.there
    have kh₅ : Kp hb h₅ := fun c o e => hheld.1 c o (kb c o e)
    refine wpAny_handleBy_cons (codeAny_handlers_test (ldg (G.keeps kh₅) rfl ?_)) (by intro q; cases q)
    obtain ⟨nm, q, bs, hdct, sn, sub, ab, col, dd, k0, k1, k2, k3, k5, hC⟩ := cls52 (G.keeps kh₅).K
    refine wpAny_excMatches_sub_self hC hob hobc (by rfl) (codeAny_handlers_suite_as ?_)
    refine lands_againW hheld fun h₆ hfl₆ hsm₆ => ?_
    dsimp only at hsm₆ ⊢
    have sm₆ : h'.UpToSlots h₆ := (hsm₄.trans hsm₅).trans hsm₆
    have hn₆ : h₆.Ns L (two1 (.ref a) (.ref b)) := (((wb.keeps k₁).slots kw).trans (sm.trans sm₆)).ns hn
    refine stl hn₆ fun h₇ hn₇ hs₇ => ?_
    dsimp only
    obtain ⟨oe, ws, hoe, hoec, hoed, hoe0⟩ := hfl₆.first
    have hBe := hfl₆.2.1
    have heL : e ≠ L := by
      rintro rfl
      obtain ⟨o', es, ep, ho', hd', _⟩ := hn₆
      rw [hoe] at ho'; cases ho'; rw [hoed] at hd'; cases hd'
    have kh₇ : Kp hb h₇ := fun c o ee => hs₇.extBut c o (fun q => by rw [show c = L from q, hbL] at ee; cases ee) (hfl₆.1 c o (kb c o ee))
    refine wpAny_execs_cons (wpAny_Return_some (Attribute_name (ldl hn₇ (by walk_at "mget") ?_)))
    refine args52 (G.keeps kh₇).K (hs₇.extBut e oe heL hoe) hoec hoed hoe0 ?_
    refine wpAny_nameGoes rfl hn₇ rfl fun h₈ m₈ hn₈ hs₈ => ?_
    dsimp only
    have k₈ : ∀ c o, c ≠ L → h₆.get? c = some o → h₈.get? c = some o := fun c o n ee => hs₈.extBut c o n (hs₇.extBut c o n ee)
    have ht₆ := htup.of_slots sm₆
    refine bad hD h₈ _ t kt ?_ ?_ ?_
    · intro c o n1 n2 ee
      exact k₈ c o (fun q => by rw [q, hLn] at ee; cases ee) (kB hfl₆.1 c o n1 n2 ee)
    · exact ((sm₀.trans sm₆).ns hns).at' fun o ee => k₈ Lw o hLL ee
    · obtain ⟨ot, nt, hot, hotc, hotd⟩ := ht₆
      refine ⟨ot, nt, k₈ t ot (fun q => ?_) hot, hotc, hotd⟩
      obtain ⟨o', es, ep, ho', hd', _⟩ := hn₆
      rw [q, ho'] at hot; cases hot; rw [hotd] at hd'; cases hd'

/-- _law_told by contract -/
theorem told_spec {Lw a b : Addr} {wr : List Addr} {hb : Heap} {le : Env} {vs us : List Value} {u D : Int} {m : Str → Option Value} {Q : Value → Shared → Prop} (hh : A.handled = none) (hroom : A.depth + 1 < recursionLimit) (G : Gd w p loose mg mb hb) (k : Kp hb s.heap) (hL : hb.get? Lw = none)
    (hfr : A.frames = some [le]) (hle : le.frame = some Lw) (hkm : le.scope.kind ≠ .module) (hns : s.heap.Ns Lw m) (sa : SeqAt s.heap a vs) (wb : WArg s.heap b us wr) (hbw : ∀ c ∈ wr, hb.get? c = none) (hlen : us.length ≤ 2 ^ 24) (X : Mix prog w vs us u D)
    (ok : D ≠ 0 → ∀ h' tk t x y, Is x u → Is y (2 * D) → KwL Lw wr s.heap h' → h'.Ns Lw m → Q (.float (Float64.div x y) t) { s with heap := h', toks := tk })
    (bad : D = 0 → ∀ h' tk t k, KwL Lw wr s.heap h' → h'.Ns Lw m → h'.TupAt t [.str msg0 k] → Q (.ref t) { s with heap := h', toks := tk }) :
    wpAny (model prog w) A (call (.ref 70) [.ref a, .ref b]) Q (fun _ _ => False) s :=
  told_enter (Nat.lt_of_succ_lt hroom) (G.keeps k) fun h₀ hn k₀ => told_walk (h₀ := s.heap) (s := { s with heap := h₀, toks := s.toks + 2 }) hh hroom G k hL hfr hle hkm hns sa wb hbw hlen X (Heap.get?_none_of_le (Nat.le_refl _)) k₀ hn ok bad
end
end Mine
end

section
set_option maxRecDepth 100000
set_option linter.unusedVariables false
namespace Mine
open PySem PySem.Calls PyProof.Rows PySem.W

def Vals (P : Value → Int → Prop) (vs : List Value) (qs : List Int) : Prop := vs.length = qs.length ∧ ∀ (i : Nat) (v : Value), vs[i]? = some v → ∃ q, qs[i]? = some q ∧ P v q
def IntV (v : Value) (q : Int) : Prop := ∃ t, v = .int q t
def HalfV (v : Value) (q : Int) : Prop := ∃ x t, v = .float x t ∧ Is x q
def WholeV (v : Value) (q : Int) : Prop := ∃ x t, v = .float x t ∧ Is x (2 * q)
theorem Vals.nil (P : Value → Int → Prop) : Vals P [] [] := ⟨rfl, fun i v h => by simp at h⟩
theorem Vals.push {P : Value → Int → Prop} {vs : List Value} {qs : List Int} {v : Value} {q : Int} (x : Vals P vs qs) (h : P v q) : Vals P (vs ++ [v]) (qs ++ [q]) := by
  refine ⟨by simp [x.1], fun i u hu => ?_⟩
  by_cases hi : i < vs.length
  · rw [List.getElem?_append_left hi] at hu
    rw [List.getElem?_append_left (by rw [← x.1]; exact hi)]
    exact x.2 i u hu
  · rw [List.getElem?_append_right (by omega)] at hu
    rw [List.getElem?_append_right (by rw [← x.1]; omega), ← x.1]
    generalize i - vs.length = j at hu ⊢
    cases j with
    | zero =>
      cases hu
      exact ⟨q, rfl, h⟩
    | succ j => simp at hu

theorem zip_at {ds ws : List Int} {i : Nat} {a b : Int} (h1 : ds[i]? = some a) (h2 : ws[i]? = some b) : (ds.zip ws)[i]? = some (a, b) := by
  rw [List.getElem?_zip_eq_some]
  exact ⟨h1, h2⟩
theorem at_lt {α : Type} {l : List α} {i : Nat} {x : α} (h : l[i]? = some x) : i < l.length := (List.getElem?_eq_some_iff.mp h).1

theorem Vals.pair {P P' : Value → Int → Prop} {vs us : List Value} {ds ws : List Int} (x : Vals P vs ds) (y : Vals P' us ws) (hl : ds.length = ws.length) :
    us.length = vs.length ∧ (ds.zip ws).length = vs.length ∧ (∀ (i : Nat) (v : Value), vs[i]? = some v → ∃ q : Int × Int, (ds.zip ws)[i]? = some q ∧ P v q.1) ∧ (∀ (i : Nat) (v : Value), us[i]? = some v → ∃ q : Int × Int, (ds.zip ws)[i]? = some q ∧ P' v q.2) := by
  refine ⟨by rw [x.1, y.1, hl], by rw [List.length_zip, x.1]; omega, fun i v h => ?_, fun i v h => ?_⟩
  · obtain ⟨q, h1, h2⟩ := x.2 i v h
    have hlt := at_lt h1
    exact ⟨(q, ws[i]'(by omega)), zip_at h1 (by simp [show i < ws.length by omega]), h2⟩
  · obtain ⟨q, h1, h2⟩ := y.2 i v h
    have hlt := at_lt h1
    exact ⟨(ds[i]'(by omega), q), zip_at (by simp [show i < ds.length by omega]) h1, h2⟩

theorem zip_mem {ds ws : List Int} {q : Int × Int} (h : q ∈ ds.zip ws) : q.1 ∈ ds ∧ q.2 ∈ ws := List.of_mem_zip h

section
variable {prog : Program} {w : World} {vs us : List Value} {ds ws : List Int}

theorem mix_fs {P : Value → Int → Prop} (y : Vals P us ws) (F : Fine ds ws) (hP : ∀ v q, P v q → NumVal v q) {A : Around} {E : Value → Shared → Prop} {s : Shared} {b : Addr} {Q : Value → Shared → Prop} (hh : A.handled = none) (hb : SeqAt s.heap b us)
    (hQ : ∀ h' tk x t, Is x (2 * ws.sum) → Kp s.heap h' → Q (.float x t) { s with heap := h', toks := tk }) : wpAny (model prog w) A (call (.builtin "math.fsum") [.ref b]) Q E s :=
  call_fsum hh hb y.1.symm (fun i v h => let ⟨q, h1, h2⟩ := y.2 i v h; ⟨q, h1, hP v q h2⟩) F.one F.w hQ

theorem mix_ints (x : Vals IntV vs ds) (y : Vals IntV us ws) (F : Fine ds ws) : Mix prog w vs us (2 * ((ds.zip ws).map fun q => q.1 * q.2).sum) ws.sum where
  sp := fun {A E s a b Q} hh ha hb hQ => by
    obtain ⟨h1, h2, h3, h4⟩ := x.pair y F.len
    refine call_sp_ints hh ha hb h1 h2 (fun i v h => ?_) (fun i v h => ?_) (fun q hq => ?_) (fun k => ?_) fun h' tk t' hk => ?_
    · obtain ⟨q, e1, t, e2⟩ := h3 i v h
      exact ⟨q, t, e1, e2⟩
    · obtain ⟨q, e1, t, e2⟩ := h4 i v h
      exact ⟨q, t, e1, e2⟩
    · have b1 := F.d _ (zip_mem hq).1
      have b2 := F.one _ (zip_mem hq).2
      have b3 := F.po q hq
      exact ⟨b1, by omega, by omega⟩
    · have := F.p k
      unfold psum
      omega
    · refine hQ _ _ _ (.inl ⟨_, t', rfl, rfl, ?_⟩) hk
      have := F.p (ds.zip ws).length
      rw [List.take_length] at this
      omega
  fs := fun {A E s b Q} hh hb hQ => mix_fs y F (fun v q h => .inl h) hh hb hQ

theorem mix_floats (x : Vals HalfV vs ds) (y : Vals WholeV us ws) (F : Fine ds ws) (h0 : 0 < vs.length) : Mix prog w vs us ((ds.zip ws).map fun q => q.1 * q.2).sum ws.sum where
  sp := fun {A E s a b Q} hh ha hb hQ => by
    obtain ⟨h1, h2, h3, h4⟩ := x.pair y F.len
    refine call_sp_floats hh ha hb h1 h2 h0 (fun i v h => ?_) (fun i v h => ?_) (fun q hq => ?_) (fun k => ?_) fun h' tk z t' hz hk => ?_
    · obtain ⟨q, e1, z, t, e2, e3⟩ := h3 i v h
      exact ⟨q, z, t, e1, e2, e3⟩
    · obtain ⟨q, e1, z, t, e2, e3⟩ := h4 i v h
      exact ⟨q, z, t, e1, e2, e3⟩
    · have b3 := F.po q hq
      omega
    · have := F.p k
      unfold psum
      omega
    · exact hQ _ _ _ (.inr ⟨z, t', rfl, hz⟩) hk
  fs := fun {A E s b Q} hh hb hQ => mix_fs y F (fun v q h => .inr h) hh hb hQ
end
end Mine
end

section
set_option maxRecDepth 100000
set_option linter.unusedVariables false
namespace Mine
open PySem PySem.Calls PyProof.Rows PySem.W

/-- the loop of a comprehension without tests, turn by turn -/
def CompLoop (prog : Program) (w : World) (A : Around) (target : Expr) : Prop := ∀ {elt iter : Expr} {scope : Scope} {pos : Pos} {it acc : Value} {env : Env} {R : Result → Shared → Prop} (I : Nat → Shared → Prop)
    (turn : ∀ n s, I n s → wpAny (model prog w) A (pyNext it) (fun r s₁ => match r with
      | none => R (.ok .next) s₁
      | some v => wpAny (model prog w) A (letOwnedTupleGo target it v) (fun _ s₁' => wpAny (model prog w) A (assign target env v) (fun _ s₂ =>
          wpAny (model prog w) A (eval elt env) (fun x s₄ =>
              wpAny (model prog w) A (call (.builtin "list.append") [acc, x]) (fun _ s₅ => ∃ m, m < n ∧ I m s₅) (notedBy (model prog w) A env fun e s' => R (.error e) s') s₄) (notedBy (model prog w) A env fun e s' => R (.error e) s') s₂)
          (notedBy (model prog w) A env fun e s' => R (.error e) s') s₁') (notedBy (model prog w) A env fun e s' => R (.error e) s') s₁) (notedBy (model prog w) A env fun e s' => R (.error e) s') s)
    (n : Nat) {s : Shared} (h : I n s), codeAny (model prog w) A (.compLoop (.ListComp elt [⟨target, iter, [], 0⟩] scope pos) 0 it acc env) R s

theorem CompLoop.pair {prog : Program} {w : World} {A : Around} {elts : List Expr} {k : Nat} {tp : Pos} : CompLoop prog w A (.Tuple elts k tp) := fun I turn n _ h => LCp.codeAny_compLoop_pair I turn n h

theorem CompLoop.name {prog : Program} {w : World} {A : Around} {x : Str} {px : Pos} : CompLoop prog w A (.Name x px) := @fun elt iter scope pos it acc env R I turn n s h => by
  refine codeAny_compLoop_tests I (fun n s hI => wpAny_mono (turn n s hI) (fun r s₁ h₁ => ?_) fun _ _ x => x) n h
  cases r with
  | none => exact h₁
  | some v =>
    have h₂ : wpAny (model prog w) A (letOwnedTupleGo (.Name x px) it v >>= fun _ => assign (.Name x px) env v) _ _ s₁ := wpAny_bind h₁
    refine wpAny_mono h₂ (fun _ s₂ h₃ => ?_) fun _ _ x => x
    exact wpAny_tests_nil (by simpa using h₃)

theorem hideAll_none_of {l : List Addr} {h : Heap} {b : Addr} (e : h.get? b = none) : (hideAll h l).get? b = none := by
  cases q : (hideAll h l).get? b with
  | none => rfl
  | some o => have := of_hideAll _ q; rw [e] at this; cases this

section
variable {prog : Program} {w : World} {A : Around} {E : Value → Shared → Prop} {s : Shared} {env : Env}

/-- a list comprehension over a list, by an invariant over what it has made -/
theorem comp_rule {target elt : Expr} {y : Str} {py pos : Pos} {scope : Scope} {ax : Addr} {items : List Value} {m : Str → Option Value} {Q : Value → Shared → Prop} (CL : CompLoop prog w A target) (hh : A.handled = none)
    (hn : s.heap.Ns env.locals m) (hy : m y = some (.ref ax)) (hl : s.heap.IsList ax items.toArray) (hlen : items.length ≤ 1000)
    (J : Nat → List Value → Heap → Prop) (B : Nat → (Str → Option Value) → Prop) (j0 : J 0 [] s.heap)
    (go : ∀ (I : Addr) (i : Nat) (v : Value) (h : Heap) (tk : Nat) (Q : Unit → Shared → Prop) (E' : Value → Shared → Prop), items[i]? = some v → Kp s.heap h → (∃ j, h.IsListIter I ax j) → Q () { s with heap := h, toks := tk } → wpAny (model prog w) A (letOwnedTupleGo target (.ref I) v) Q E' { s with heap := h, toks := tk })
    (tgt : ∀ (C : Addr) (m : Str → Option Value) (h : Heap) (i : Nat) (v : Value) (tk : Nat) (Q : Unit → Shared → Prop) (E' : Value → Shared → Prop), items[i]? = some v → Kp s.heap h → h.Ns C m →
      (∀ h' tk' m', h'.Ns C m' → B i m' → KpL C h h' → Q () { s with heap := h', toks := tk' }) → wpAny (model prog w) A (assign target (compEnv scope C env) v) Q E' { s with heap := h, toks := tk })
    (el : ∀ (C : Addr) (m : Str → Option Value) (h g : Heap) (i : Nat) (ys : List Value) (tk : Nat), i < items.length → J i ys g → Kp s.heap g → Kp g h → h.Ns C m → B i m →
      wpAny (model prog w) A (eval elt (compEnv scope C env)) (fun v s₃ => ∃ h₃ tk₃, s₃ = { s with heap := h₃, toks := tk₃ } ∧ Kp h h₃ ∧ ∀ g', Kp g g' → (∀ c o, h.get? c = none → h₃.get? c = some o → g'.get? c = some o) → J (i + 1) (ys ++ [v]) g') (fun _ _ => False) { s with heap := h, toks := tk })
    (fin : ∀ (D : Addr) (h' : Heap) (tk : Nat) (g : Heap) (ys : List Value), Kp s.heap h' → s.heap.get? D = none → h'.IsList D ys.toArray → g.get? D = none → Kp g h' → Kp s.heap g → ys.length = items.length → J items.length ys g → Q (.ref D) { s with heap := h', toks := tk })
    (hfree : ∀ x ∈ scope.names, x.2 ≠ .free) (hcell : ∀ x ∈ scope.names, x.2 ≠ .cell) (hkind : scope.kind = .function) (hnames : ∀ x ∈ scope.names, x.2 = .local → scope.names.lookup x.1 = some .local)
    (hk : env.scope.kind = .function := by rfl) (hyl : env.kindOf y = some .local := by rfl) (hd : (y == ("__debug__" : Str)) = false := by decide)
    (hs : ∀ x, foldedSetIterable (.Name y py) env x = pure x := by intro _; rfl) :
    wpAny (model prog w) A (eval (.ListComp elt [⟨target, .Name y py, [], 0⟩] scope pos) env) Q E s := by
  refine wpAny_ListComp hfree hkind hnames (ldl hn hy ?_ hk hyl hd) hs
  refine wpAny_pyIter_list hl (wpAny_newObj_type (hd := by size_fits) (wpAny_newFunctionEnv hcell (by intro y hy; simp at hy) (fun h₁ hns₁ hsb₁ => ?_) hkind))
  dsimp only at hns₁ hsb₁ ⊢
  have hax : ax < s.heap.objs.size := by obtain ⟨ol, hol, _⟩ := hl; exact Heap.lt_size hol
  generalize hH1 : s.heap.push { cls := .type "list_iterator", data := .fields #[.ref ax, .int 0 0] } = H1 at hns₁ hsb₁ ⊢
  have hD : H1.objs.size = s.heap.objs.size + 1 := by rw [← hH1, Heap.size_push]
  generalize hH2 : H1.push { cls := .type "list", dict := none, data := .seq ([] : List Value).toArray } = H2 at hns₁ hsb₁ ⊢
  have hC : H2.objs.size = s.heap.objs.size + 2 := by rw [← hH2, Heap.size_push, hD]
  generalize hi : s.heap.objs.size = I at *
  generalize hd' : H1.objs.size = D at *
  generalize hc' : H2.objs.size = C at *
  have hDI : D ≠ I := by rw [hD]; exact Nat.succ_ne_self _
  have hDC : D ≠ C := by rw [hD, hC]; exact Nat.ne_of_lt (Nat.lt_succ_self _)
  have hIC : I ≠ C := by rw [hC]; exact Nat.ne_of_lt (Nat.lt_succ_of_lt (Nat.lt_succ_self _))
  have hxI : ax ≠ I := Nat.ne_of_lt hax
  have fresh : ∀ a, I ≤ a → s.heap.get? a = none := fun a ha => Heap.get?_none_of_le (by rw [hi]; exact ha)
  have fI := fresh I (Nat.le_refl _)
  have fD := fresh D (by rw [hD]; exact Nat.le_succ _)
  have fC := fresh C (by rw [hC]; exact Nat.le_add_right _ _)
  have old : Kp s.heap h₁ := fun b o e => hsb₁.extBut b o (fun q => by rw [q, fC] at e; cases e) (Heap.get?_push_of_some _ (hH2 ▸ Heap.get?_push_of_some _ (hH1 ▸ Heap.get?_push_of_some _ e)))
  have hit : h₁.IsListIter I ax 0 :=
    ⟨_, hsb₁.extBut _ _ hIC (Heap.get?_push_of_some _ (hH2 ▸ Heap.get?_push_of_some _ (by rw [← hH1, ← hi]; exact Heap.get?_push_size _ rfl))), rfl, rfl⟩
  have hacc : h₁.IsList D ([] : List Value).toArray := ⟨_, hsb₁.extBut _ _ hDC (Heap.get?_push_of_some _ (by rw [← hH2, ← hd']; exact Heap.get?_push_size _ rfl)), rfl, _, rfl⟩
  have W := Walks.list (prog := prog) (w := w) hh I ax hxI items.toArray
  have hn0 : items.toArray.size = items.length := by simp
  have loop : ∀ s₂ : Shared, s₂ = { s with heap := h₁, toks := s.toks + ([] : List (Str × Value)).length } →
      codeAny (model prog w) A (.compLoop (.ListComp elt [⟨target, .Name y py, [], 0⟩] scope pos) 0 (.ref I) (.ref D) (compEnv scope C env))
        (fun r s' => ∃ m, s'.heap.Ns C m ∧ ∀ h', Heap.SameBut C s'.heap h' →
          match r with | .ok _ => Q (.ref D) { s' with heap := h' } | .error x => wpAny (model prog w) A (passOn "comprehension.variables-let-go" x (compEnv scope C env)) Q E { s' with heap := h' }) s₂ := by
    rintro s₂ rfl
    refine CL (fun k s' => ∃ h tk m' ys g, s' = { s with heap := h, toks := tk } ∧ h.IsListIter I ax ys.length ∧ h.IsList D ys.toArray ∧ h.Ns C m' ∧ Kp g h ∧ Kp s.heap g ∧ g.get? I = none ∧ g.get? D = none ∧ g.get? C = none ∧
      J ys.length ys g ∧ ys.length ≤ items.length ∧ k = items.length + 1 - ys.length) ?_ (items.length + 1) ⟨h₁, _, _, [], s.heap, rfl, hit, hacc, hns₁, old, Kp.refl _, fI, fD, fC, j0, Nat.zero_le _, rfl⟩
    rintro k s' ⟨h, tk, m', ys, g, rfl, hit', hD', hC', kg, ks, gI, gD, gC, hj, hle, rfl⟩
    have hax' : h.IsList ax items.toArray := list_keeps hl (ks.trans kg)
    by_cases hlt : ys.length < items.length
    · refine W.item ys.length _ _ _ (by rw [hn0]; exact hlt) ⟨hit', hax'⟩ fun v h₂ tk₂ hv st₂ k₂ => ?_
      dsimp only at hv k₂ st₂ ⊢
      have hv' : items[ys.length]? = some v := by simpa using hv
      have k₂' : ∀ b o, b ≠ I → h.get? b = some o → h₂.get? b = some o := fun b o hb e => k₂ b o (fun q => hb (List.mem_singleton.mp q)) e
      have kg₂ : Kp g h₂ := fun b o e => k₂' b o (fun q => by rw [q, gI] at e; cases e) (kg b o e)
      have hC₂ : h₂.Ns C m' := hC'.at' fun o e => k₂' C o (Ne.symm hIC) e
      refine go I ys.length v h₂ tk₂ _ _ hv' (ks.trans kg₂) ⟨_, st₂.1⟩ ?_
      refine tgt C m' h₂ ys.length v tk₂ _ _ hv' (ks.trans kg₂) hC₂ fun h₃ tk₃ m₃ hC₃ hB k₃ => ?_
      have kg₃ : Kp g h₃ := fun b o e => k₃ b o (fun q => by rw [q, gC] at e; cases e) (kg₂ b o e)
      refine never (wpAny_mono (el C m₃ h₃ g ys.length ys tk₃ hlt hj ks kg₃ hC₃ hB) (fun x s₄ h₄ => ?_) fun _ _ x => x)
      obtain ⟨h₄, tk₄, rfl, k₄, newJ⟩ := h₄
      have hit₄ : h₄.IsListIter I ax (ys.length + 1) := by
        obtain ⟨o, ho, r⟩ := st₂.1
        exact ⟨o, k₄ _ _ (k₃ I o hIC ho), r⟩
      have hD₄ : h₄.IsList D ys.toArray := by
        obtain ⟨o, ho, r⟩ := hD'
        exact ⟨o, k₄ _ _ (k₃ D o hDC (k₂' D o hDI ho)), r⟩
      refine wpAny_list_append (hsz := by rw [List.size_toArray]; size_fits) hD₄ fun h₅ hD₅ hs₅ => ?_
      dsimp only
      have some3 : ∀ c ∈ [I, D, C], ∃ o, h₃.get? c = some o := by
        intro c hc
        simp only [List.mem_cons, List.not_mem_nil, or_false] at hc
        rcases hc with rfl | rfl | rfl
        · obtain ⟨o, ho, _⟩ := st₂.1
          exact ⟨o, k₃ _ _ hIC ho⟩
        · obtain ⟨o, ho, _⟩ := hD'
          exact ⟨o, k₃ _ o hDC (k₂' _ o hDI ho)⟩
        · obtain ⟨o, _, _, ho, _⟩ := hC₃
          exact ⟨o, ho⟩
      have gn : ∀ c ∈ [I, D, C], g.get? c = none := by
        intro c hc
        simp only [List.mem_cons, List.not_mem_nil, or_false] at hc
        rcases hc with rfl | rfl | rfl <;> assumption
      have kg' : Kp g (hideAll h₄ [I, D, C]) := fun c o e => hideAll_get _ (k₄ c o (kg₃ c o e)) fun hm => by rw [gn c hm] at e; cases e
      refine ⟨items.length + 1 - (ys.length + 1), by omega, h₅, tk₄, m₃, ys ++ [x], hideAll h₄ [I, D, C], rfl, ?_, ?_, ?_, ?_, ks.trans kg', ?_, ?_, ?_, ?_, ?_, ?_⟩
      · obtain ⟨o, ho, r⟩ := hit₄
        rw [List.length_append]
        exact ⟨o, hs₅.extBut I o (Ne.symm hDI) ho, r⟩
      · simpa using hD₅
      · exact (hC₃.keeps k₄).at' fun o e => hs₅.extBut C o (Ne.symm hDC) e
      · intro c o e
        have hcD : c ≠ D := fun q => by rw [q, hideAll_none _ (.tail _ (.head _))] at e; cases e
        exact hs₅.extBut c o hcD (of_hideAll _ e)
      · exact hideAll_none _ (.head _)
      · exact hideAll_none _ (.tail _ (.head _))
      · exact hideAll_none _ (.tail _ (.tail _ (.head _)))
      · rw [List.length_append]
        refine newJ _ kg' fun c o e1 e2 => hideAll_get _ e2 fun hm => ?_
        obtain ⟨o', ho'⟩ := some3 c hm
        rw [e1] at ho'; cases ho'
      · rw [List.length_append]; exact hlt
      · rw [List.length_append]; rfl
    · have hin : ys.length = items.length := by omega
      refine W.done _ _ _ (by rw [hn0, ← hin]; exact ⟨hit', hax'⟩) fun h₂ tk₂ k₂ => ?_
      dsimp only at k₂ ⊢
      have k₂' : ∀ b o, b ≠ I → h.get? b = some o → h₂.get? b = some o := fun b o hb e => k₂ b o (fun q => hb (List.mem_singleton.mp q)) e
      refine ⟨m', hC'.at' fun o e => k₂' C o (Ne.symm hIC) e, fun h₃ hs₃ => ?_⟩
      have kg₃ : Kp g h₃ := fun b o e => hs₃.extBut b o (fun q => by rw [q, gC] at e; cases e) (k₂' b o (fun q => by rw [q, gI] at e; cases e) (kg b o e))
      refine fin D h₃ tk₂ g ys (ks.trans kg₃) fD ?_ gD kg₃ ks hin (hin ▸ hj)
      obtain ⟨o, ho, r⟩ := hD'
      exact ⟨o, hs₃.extBut D o hDC (k₂' D o hDI ho), r⟩
  exact codeAny_compStart_list (loop _ rfl) (wpAny_pyIter_listiter hit (loop _ rfl))
end
end Mine
end

section
set_option maxRecDepth 100000
set_option linter.unusedVariables false
namespace Mine
open PySem PySem.Calls PyProof.Rows PySem.W

theorem pick_from_neg (items : Array Value) (j : Nat) (h1 : 1 ≤ j) (h2 : j ≤ items.size) : slicePick items (some (-(j : Int))) none none = (items.toList.drop (items.size - j)).toArray := by
  rw [← slicePick_from items (items.size - j) (by omega)]
  unfold slicePick
  have e : sliceBounds (some (-(j : Int))) none none items.size = sliceBounds (some ((items.size - j : Nat) : Int)) none none items.size := by
    simp only [sliceBounds, Option.getD_none]
    rw [if_pos (show -(j : Int) < 0 by omega), if_neg (show ¬ (((items.size - j : Nat) : Int) < 0) by omega), show -(j : Int) + (items.size : Int) = ((items.size - j : Nat) : Int) by omega]
  rw [e]
theorem pick_run_neg (items : Array Value) (j k : Nat) (h1 : 1 ≤ k) (h3 : k ≤ j) (h2 : j ≤ items.size) : slicePick items (some (-(j : Int))) (some (-(k : Int))) none = ((items.toList.drop (items.size - j)).take (j - k)).toArray := by
  have := slicePick_run items (items.size - j) (items.size - k) (by omega) (by omega)
  rw [show items.size - k - (items.size - j) = j - k by omega] at this
  rw [← this]
  unfold slicePick
  have e : sliceBounds (some (-(j : Int))) (some (-(k : Int))) none items.size = sliceBounds (some ((items.size - j : Nat) : Int)) (some ((items.size - k : Nat) : Int)) none items.size := by
    simp only [sliceBounds, Option.getD_none]
    rw [if_pos (show -(j : Int) < 0 by omega), if_neg (show ¬ (((items.size - j : Nat) : Int) < 0) by omega), show -(j : Int) + (items.size : Int) = ((items.size - j : Nat) : Int) by omega,
      if_pos (show -(k : Int) < 0 by omega), if_neg (show ¬ (((items.size - k : Nat) : Int) < 0) by omega), show -(k : Int) + (items.size : Int) = ((items.size - k : Nat) : Int) by omega]
  rw [e]
theorem pick_rev2 (a b : Value) : slicePick #[a, b] none none (some (-1)) = #[b, a] := by
  have e : (sliceRange (sliceBounds none none (some (-1)) 2).1 (sliceBounds none none (some (-1)) 2).2.1 (sliceBounds none none (some (-1)) 2).2.2) = [1, 0] := by decide
  show ((sliceRange (sliceBounds none none (some (-1)) 2).1 (sliceBounds none none (some (-1)) 2).2.1 (sliceBounds none none (some (-1)) 2).2.2).filterMap ((#[a, b] : Array Value)[·]?)).toArray = _
  rw [e]
  rfl

section
variable {prog : Program} {w : World} {A : Around} {E : Value → Shared → Prop} {s : Shared} {env : Env}

theorem tail_list {value slice : Expr} {o i : Addr} {Q : Value → Shared → Prop} (hT : s.TypeIs (.ref o) "list") (h : wpAny (model prog w) A (getItem (.ref o) (.ref i)) Q E s)
    (hs : ∃ ops, subscripted slice false (.ref o) (.ref i) = operate ops (getItem (.ref o) (.ref i))) : wpAny (model prog w) A (subscriptTail value slice (.ref o) (.ref i)) Q E s := by
  unfold subscriptTail
  refine wpAny_bind ?_
  rw [getitemInPython_of_ne hT.not_modules]
  refine wpAny_bind (wpAny_specialOf hT list_getitem_lookup ?_)
  obtain ⟨ops, hs⟩ := hs
  have fin : wpAny (model prog w) A (subscripted slice false (.ref o) (.ref i)) (fun r s₃ => wpAny (model prog w) A (letTemporaryGo value (.ref o) r >>= fun _ => pure r) Q E s₃) E s := by
    rw [hs]
    exact wpAny_operating (wpAny_mono h (fun r s₃ h₃ => wpAny_bind (wpAny_letTemporaryGo (wpAny_pure h₃))) fun _ _ x => x)
  exact wpAny_pure (wpAny_bind fin)

theorem sub_slice {value : Expr} {lower upper step : Option Expr} {p pos : Pos} {Q : Value → Shared → Prop}
    (h : wpAny (model prog w) A (eval value env) (fun o s₁ => wpAny (model prog w) A (evalPart lower env) (fun vl s₂ => wpAny (model prog w) A (evalPart upper env) (fun vu s₃ => wpAny (model prog w) A (evalPart step env) (fun vk s₄ =>
      ∃ l items lo hi st, o = .ref l ∧ s₄.heap.IsList l items ∧ items.size ≤ 1000 ∧ IsPart vl lo ∧ IsPart vu hi ∧ IsPart vk st ∧ st ≠ some 0 ∧
        ∀ D h', Kp s₄.heap h' → s₄.heap.get? D = none → h'.IsList D (slicePick items lo hi st) → Q (.ref D) { s₄ with heap := h' }) E s₃) E s₂) E s₁) E s) :
    wpAny (model prog w) A (eval (.Subscript value (.Slice lower upper step p) pos) env) Q E s := by
  refine Subscript_ (wpAny_mono h (fun o s₁ h₁ => wpAny_Slice (wpAny_mono h₁ (fun vl s₂ h₂ => wpAny_mono h₂ (fun vu s₃ h₃ => wpAny_mono h₃ (fun vk s₄ h₄ => ?_) fun _ _ x => x) fun _ _ x => x) fun _ _ x => x)) fun _ _ x => x)
  obtain ⟨l, items, lo, hi, st, rfl, hl, hsz, pl, pu, pk, h0, hQ⟩ := h₄
  refine tail_list (Heap.IsList.typeIs (s := { s₄ with heap := s₄.heap.push { cls := .type "slice", data := .fields #[vl, vu, vk] } }) (hl.push _)) ?_ (by cases step <;> exact ⟨_, rfl⟩)
  refine wpAny_getItem_list_slice (hl.push _) (Heap.IsSliceOf.new ..) pl pu pk h0 ?_ (Nat.le_trans hsz (by decide))
  refine hQ _ _ ((Kp.push _ _).trans (Kp.push _ _)) (Heap.get?_none_of_le ?_) ⟨_, Heap.get?_push_size _ rfl, rfl, 0, rfl⟩
  rw [Heap.size_push]
  exact Nat.le_succ _
end
end Mine
end

section
set_option maxRecDepth 100000
set_option linter.unusedVariables false
namespace Mine
open PySem PySem.Calls PyProof.Rows PySem.W

theorem preSum_vals {vs : List Value} {qs : List Int} : ∀ j : Nat, preSum (fun i => qs.getD i 0) j = (qs.take j).sum
  | 0 => by simp [preSum]
  | j + 1 => by
    rw [preSum, preSum_vals (vs := vs) j, List.take_add_one, List.sum_append]
    congr 1
    rw [List.getD_eq_getElem?_getD]
    cases qs[j]? <;> simp

section
variable {prog : Program} {w : World} {A : Around} {E : Value → Shared → Prop} {s : Shared} {env : Env}

theorem add_l {l b : Addr} {vs ws : List Value} {Q : Value → Shared → Prop} (hl : s.heap.IsList l vs.toArray) (hb : s.heap.IsList b ws.toArray) (hsz : vs.length + ws.length ≤ 1000)
    (h : ∀ D h', Kp s.heap h' → s.heap.get? D = none → h'.IsList D (vs ++ ws).toArray → Q (.ref D) { s with heap := h' }) : wpAny (model prog w) A (binaryOp .Add (.ref l) (.ref b)) Q E s := by
  obtain ⟨⟨cls, dd, data, sl⟩, ho, hc, n, hd⟩ := hl
  obtain ⟨⟨cls2, dd2, data2, sl2⟩, ho2, hc2, n2, hd2⟩ := hb
  simp only at hc hd hc2 hd2
  subst hc hd hc2 hd2
  have e : vs.toArray ++ ws.toArray = (vs ++ ws).toArray := by simp
  refine concat_meets ⟨_, ho, rfl⟩ ⟨_, ho2, rfl⟩ noFill_list_add seq_list_add PySem.F.slot_list_add PySem.F.entry_list_add (PySem.F.args_list_add_2 _ _) (list_addW l b vs.toArray ws.toArray n n2 dd dd2 sl sl2 (by simpa using Nat.le_trans hsz (by decide))) ⟨ho, ho2, ?_⟩
  rw [e]
  exact h _ _ (Kp.push _ _) (Heap.get?_none_of_le (Nat.le_refl _)) ⟨_, Heap.get?_push_size _ rfl, rfl, 0, rfl⟩

theorem sum_l {l : Addr} {vs : List Value} {qs : List Int} {Q : Value → Shared → Prop} (hh : A.handled = none) (hl : s.heap.IsList l vs.toArray) (hv : Vals IntV vs qs)
    (h : ∀ h' tk t, Kp s.heap h' → Q (.int qs.sum t) { s with heap := h', toks := tk }) : wpAny (model prog w) A (call (.builtin "sum") [.ref l]) Q E s := by
  refine call_sum_walkG (wpAny_pyIter_list hl ?_)
  have hlt : l < s.heap.objs.size := by obtain ⟨o, ho, _⟩ := hl; exact Heap.lt_size ho
  have hne : l ≠ s.heap.objs.size := Nat.ne_of_lt hlt
  refine ⟨_, _, _, _, _, _, fun i => qs.getD i 0, rfl, Walks.list (A := A.in1) hh s.heap.objs.size l hne vs.toArray, ⟨⟨_, Heap.get?_push_size _ rfl, rfl, rfl⟩, hl.push _⟩, ?_, ?_, ?_⟩
  · intro b hb
    show b < (s.heap.push _).objs.size
    rw [Heap.size_push]
    simp only [List.mem_cons, List.not_mem_nil, or_false] at hb
    rcases hb with rfl | rfl
    · exact Nat.lt_succ_self _
    · exact Nat.lt_succ_of_lt hlt
  · intro i v hi
    have hi' : vs[i]? = some v := by simpa using hi
    obtain ⟨q, h1, t, h2⟩ := hv.2 i v hi'
    exact ⟨t, by dsimp only; rw [h2, List.getD_eq_getElem?_getD, h1]; rfl⟩
  · intro h' tk t' hk
    have e : preSum (fun i => qs.getD i 0) vs.toArray.size = qs.sum := by
      rw [preSum_vals (vs := vs), List.size_toArray, hv.1, List.take_length]
    rw [e]
    exact h h' tk t' fun c o ec => hk c o (by rw [List.mem_singleton]; exact Nat.ne_of_lt (Heap.lt_size ec)) (Heap.get?_push_of_some _ ec)

theorem iter_l {l : Addr} {vs : List Value} {Q : Value → Shared → Prop} (hl : s.heap.IsList l vs.toArray)
    (h : ∀ I h', Kp s.heap h' → s.heap.get? I = none → LiAt h' I l vs → Q (.ref I) { s with heap := h' }) : wpAny (model prog w) A (call (.builtin "iter") [.ref l]) Q E s := by
  refine call_function_entry (by decide +kernel) (by decide +kernel) kdk_entry_iter (kdk_args_iter _) ?_
  unfold Builtin.«iter»
  refine wpAny_bind (m := someArgs "iter" 1 2 _) (wpAny_of_eq (a := [Value.ref l]) (by first | rfl | kernel_rfl!) ?_)
  show wpAny _ _ (pyIter (.ref l) >>= _) _ _ _
  refine wpAny_bind (wpAny_pyIter_list hl ?_)
  exact wpAny_pure ⟨_, rfl, h _ _ (Kp.push _ _) (Heap.get?_none_of_le (Nat.le_refl _)) ⟨⟨_, Heap.get?_push_size _ rfl, rfl, rfl⟩, hl.push _⟩⟩

/-- name.append(e) -/
theorem app_stmt {x : Str} {np apos cpos epos : Pos} {e : Expr} {D : Addr} {ys : List Value} {m : Str → Option Value} {Q : Flow → Shared → Prop} (hn : s.heap.Ns env.locals m) (hx : m x = some (.ref D)) (hD : s.heap.PlainList D ys.toArray) (hsz : ys.length ≤ 1000)
    (h : wpAny (model prog w) A (eval e env) (fun v s₁ => s₁.heap.PlainList D ys.toArray ∧ ∀ h', h'.PlainList D (ys ++ [v]).toArray → Heap.SameBut D s₁.heap h' → Q .next { s₁ with heap := h' }) E s)
    (htrees : backTo cpos (starEach [e] env) = [(false, eval e env)]) (hline : (apos.endLine == cpos.line) = true := by rfl)
    (hk : env.scope.kind = .function := by rfl) (hl : env.kindOf x = some .local := by rfl) (hd : (x == ("__debug__" : Str)) = false := by decide) (hi : interactive env = false := by rfl)
    (hs : swapsWith (.Call (.Attribute (.Name x np) "append" apos) [e] [] cpos) none epos.line env = pure false := by rfl) :
    wpAny (model prog w) A (exec (.Expr (.Call (.Attribute (.Name x np) "append" apos) [e] [] cpos) epos) env) Q E s := by
  refine wpAny_Expr (wpAny_Call_method1_late rfl hline htrees (ldl hn hx ?_ hk hl hd)) hi hs
  obtain ⟨n, ho⟩ := id hD
  refine ⟨"list", "list.append", PySem.F.plainAttrs_list, slot_list_append, type_list_append, ⟨_, ho, rfl⟩, ?_, ?_⟩
  · intro a ea
    cases ea
    exact ⟨_, ho, rfl⟩
  · refine Calls.callWith_builtin rfl (Calls.evalArgs_plain (Calls.spliced_cons (wpAny_mono h (fun v s₁ h₁ => Calls.spliced_nil ?_) fun _ _ x => x)))
    obtain ⟨hD₁, hQ⟩ := h₁
    refine wpAny_list_append_plain (hsz := by rw [List.size_toArray]; exact Nat.le_trans hsz (by decide)) hD₁ fun h' hD' hs' => ?_
    refine hQ h' ?_ hs'
    simpa using hD'
end
end Mine
end

section
set_option maxRecDepth 100000
set_option linter.unusedVariables false
namespace Mine
open PySem PySem.Calls PyProof.Rows PySem.W
local macro_rules | `(tactic| walk_at "mget") => `(tactic| (repeat (first | assumption | exact if_pos rfl | refine (if_neg (by decide)).trans ?_)))

noncomputable abbrev lenv (Z : Addr × Value) (L : Addr) : Env := envOf "law" (fdAt 82).scope L Z.1 Z.2
noncomputable def ringBody : List Stmt := forBody ((bodyAt 82).getD 4 (.Pass default))
noncomputable def ptBody : List Stmt := forBody (ringBody.getD 2 (.Pass default))
noncomputable def kBody : List Stmt := forBody (ptBody.getD 1 (.Pass default))

def keepNames : List Str := ["ring", "px", "py", "top", "low", "total"]
def Same (m m' : Str → Option Value) : Prop := ∀ x ∈ keepNames, m' x = m x
theorem Same.refl (m : Str → Option Value) : Same m m := fun _ _ => rfl
theorem Same.upd {m m' : Str → Option Value} {y : Str} {v : Value} (s : Same m m') (hy : y ∉ keepNames := by decide) : Same m (upd m' y v) := fun x hx => (if_neg (fun (e : x = y) => hy (e ▸ hx))).trans (s x hx)
theorem Same.trans {a b c : Str → Option Value} (x : Same a b) (y : Same b c) : Same a c := fun n hn => (y n hn).trans (x n hn)
theorem Same.get {m m' : Str → Option Value} {x : Str} {v : Option Value} (s : Same m m') (h : m x = v) (hx : x ∈ keepNames := by decide) : m' x = v := (s x hx).trans h

/-- the two lists while they grow -/
structure PJ (g : Heap) (m₀ : Str → Option Value) (da wa : Addr) (px py : Int) (pts : List Pt) (i : Nat) (m : Str → Option Value) (h : Heap) : Prop where
  k : Kp g h
  same : Same m₀ m
  data : m "data" = some (.ref da)
  weights : m "weights" = some (.ref wa)
  lists : ∃ vs us : List Value, h.PlainList da vs.toArray ∧ h.PlainList wa us.toArray ∧ Vals IntV vs (((edges pts).take i).map (dat px)) ∧ Vals IntV us (((edges pts).take i).map (wt px py))

section
variable {Z : Addr × Value} {prog : Program} {w : World} {A : Around} {s : Shared} {p : Program} {loose : List Str} {mg mb : Str → Option Value}

theorem take_map_snoc {α : Type} {f : α → Int} {l : List α} {i : Nat} {e : α} (h : l[i]? = some e) : (l.take (i + 1)).map f = (l.take i).map f ++ [f e] := by
  rw [List.take_add_one, h]
  simp

theorem k_turn {L : Addr} {g : Heap} {ra da wa : Addr} {px py : Int} {pts : List Pt} {i : Nat} {m₀ m : Str → Option Value} {tk : Tok} {h : Heap} (hh : A.handled = none) (hr : RingAt g ra pts) (hL : g.get? L = none) (hsz : pts.length ≤ 66) (hbd : ∀ q ∈ pts, Small 1024 q) (hp : Small 3000 (px, py))
    (v1 : m₀ "ring" = some (.ref ra)) (v2 : ∃ t, m₀ "px" = some (.int px t)) (v3 : ∃ t, m₀ "py" = some (.int py t)) (hdw : da ≠ wa) (hdL : da ≠ L) (hwL : wa ≠ L) (gd : g.get? da = none) (gw : g.get? wa = none)
    (hi : i < pts.length) (hj : PJ g m₀ da wa px py pts i m h) (hkp : Kp g s.heap) (kd : ∀ ys, h.PlainList da ys → s.heap.PlainList da ys) (kw : ∀ ys, h.PlainList wa ys → s.heap.PlainList wa ys) (hn : s.heap.Ns L (upd m "k" (.int i tk))) :
    wpAny (model prog w) A (execs kBody (lenv Z L)) (fun f s₃ => f = .next ∧ ∃ m' h' tk', s₃ = { s with heap := h', toks := tk' } ∧ h'.Ns L m' ∧ PJ g m₀ da wa px py pts (i + 1) m' h' ∧ (∀ b o, b ≠ L → b ≠ da → b ≠ wa → s.heap.get? b = some o → h'.get? b = some o)) (fun _ _ => False) s := by
  obtain ⟨vs, hl, hpt⟩ := hr
  obtain ⟨dv, wv, pd, pw, vd, vw⟩ := hj.lists
  obtain ⟨tx, v2⟩ := v2
  obtain ⟨ty, v3⟩ := v3
  obtain ⟨e, he⟩ : ∃ e, (edges pts)[i]? = some e := ⟨_, List.getElem?_eq_getElem (by rw [edges_length]; exact hi)⟩
  obtain ⟨g1, g2⟩ := prev_get hi he
  have hm := edges_mem (List.mem_of_getElem? he)
  have b1 := hbd _ hm.1
  have b2 := hbd _ hm.2
  have hdlen := vd.1
  have hwlen := vw.1
  have hdl : dv.length ≤ 1000 := by rw [hdlen, List.length_map, List.length_take]; omega
  have hwl : wv.length ≤ 1000 := by rw [hwlen, List.length_map, List.length_take]; omega
  obtain ⟨⟨x, y⟩, ⟨z, w'⟩⟩ := e
  unfold Small at b1 b2 hp
  simp only at b1 b2 hp g1 g2
  have sm := hj.same
  have pd₀ := kd _ pd
  have pw₀ := kw _ pw
  have hring : (upd m "k" (.int i tk)) "ring" = some (.ref ra) := sm.upd.get v1
  refine wpAny_execs_cons (Assign_Tuple (wpAny_Subscript_BinOp_late (ldl hn hring (EvI.use (EvI.sub (EvI.name hn (if_pos rfl)) EvI.const) rfl fun t k => ?_))))
  refine ⟨"list", _, list_slot, list_keeps hl hkp |>.typeIs, ?_⟩
  refine ring_item (j := if i = 0 then pts.length - 1 else i - 1) (list_keeps hl hkp) (hpt.keeps hkp) hsz (by split <;> omega) (by split <;> omega) fun T q ux uy hq hT => ?_
  rw [g1] at hq
  cases hq
  refine unpack2 hh hT hn fun h₁ k₁ hn₁ hk₁ => ?_
  have kp₁ := kp_but hkp hk₁ hL
  refine wpAny_execs_cons (Assign_Tuple (wpAny_Subscript_Name_late (ldl hn₁ (by walk_at "mget") (EvI.use (EvI.name hn₁ (by walk_at "mget")) rfl fun t k => ?_))))
  refine ⟨"list", _, list_slot, list_keeps hl kp₁ |>.typeIs, ?_⟩
  refine ring_item (j := i) (list_keeps hl kp₁) (hpt.keeps kp₁) hsz hi (.inl rfl) fun T' q ux' uy' hq hT' => ?_
  rw [g2] at hq
  cases hq
  refine unpack2 hh hT' hn₁ fun h₂ k₂ hn₂ hk₂ => ?_
  have kp₂ := kp_but kp₁ hk₂ hL
  dsimp only
  have sm₂ : Same m₀ (upd (upd (upd (upd (upd m "k" (.int i tk)) "x" (.int x ux)) "y" (.int y uy)) "z" (.int z ux')) "w" (.int w' uy')) := sm.upd.upd.upd.upd.upd
  have vx : (upd (upd (upd (upd (upd m "k" (.int i tk)) "x" (.int x ux)) "y" (.int y uy)) "z" (.int z ux')) "w" (.int w' uy')) "x" = some (.int x ux) := by walk_at "mget"
  have vy : (upd (upd (upd (upd (upd m "k" (.int i tk)) "x" (.int x ux)) "y" (.int y uy)) "z" (.int z ux')) "w" (.int w' uy')) "y" = some (.int y uy) := by walk_at "mget"
  have vz : (upd (upd (upd (upd (upd m "k" (.int i tk)) "x" (.int x ux)) "y" (.int y uy)) "z" (.int z ux')) "w" (.int w' uy')) "z" = some (.int z ux') := by walk_at "mget"
  have vw' : (upd (upd (upd (upd (upd m "k" (.int i tk)) "x" (.int x ux)) "y" (.int y uy)) "z" (.int z ux')) "w" (.int w' uy')) "w" = some (.int w' uy') := by walk_at "mget"
  have vda : (upd (upd (upd (upd (upd m "k" (.int i tk)) "x" (.int x ux)) "y" (.int y uy)) "z" (.int z ux')) "w" (.int w' uy')) "data" = some (.ref da) := by walk_at "mget"; exact hj.data
  have vwe : (upd (upd (upd (upd (upd m "k" (.int i tk)) "x" (.int x ux)) "y" (.int y uy)) "z" (.int z ux')) "w" (.int w' uy')) "weights" = some (.ref wa) := by walk_at "mget"; exact hj.weights
  generalize (upd (upd (upd (upd (upd m "k" (.int i tk)) "x" (.int x ux)) "y" (.int y uy)) "z" (.int z ux')) "w" (.int w' uy')) = m₂ at *
  have vpx := sm₂.get v2
  have vpy := sm₂.get v3
  have keep₂ : KpL L s.heap h₂ := fun b o n e => hk₂ b o n (hk₁ b o n e)
  have pd₂ : h₂.PlainList da dv.toArray := pd₀.at fun o e => keep₂ da o hdL e
  have pw₂ : h₂.PlainList wa wv.toArray := pw₀.at fun o e => keep₂ wa o hwL e
  refine wpAny_execs_cons (app_stmt hn₂ vda pd₂ hdl ?_ rfl)
  refine EvI.use (EvI.add (EvI.add (EvI.name hn₂ vpx) (EvI.name hn₂ vx)) (EvI.name hn₂ vz)) rfl fun t3 k3 => ?_
  refine ⟨pd₂, fun h₃ pd₃ hs₃ => ?_⟩
  have hn₃ : h₃.Ns L m₂ := hn₂.at' fun o e => hs₃.extBut L o (Ne.symm hdL) e
  have pw₃ : h₃.PlainList wa wv.toArray := pw₂.at fun o e => hs₃.extBut wa o (Ne.symm hdw) e
  dsimp only
  refine wpAny_execs_cons (app_stmt hn₃ vwe pw₃ hwl ?_ rfl)
  refine EvI.use (EvI.sub (EvI.mul (EvI.sub (EvI.name hn₃ vx) (EvI.name hn₃ vpx)) (EvI.sub (EvI.name hn₃ vw') (EvI.name hn₃ vpy)) (by omega)) (EvI.mul (EvI.sub (EvI.name hn₃ vz) (EvI.name hn₃ vpx)) (EvI.sub (EvI.name hn₃ vy) (EvI.name hn₃ vpy)) (by omega))) rfl fun t4 k4 => ?_
  refine ⟨pw₃, fun h₄ pw₄ hs₄ => ?_⟩
  dsimp only
  have keep₄ : ∀ b o, b ≠ L → b ≠ da → b ≠ wa → s.heap.get? b = some o → h₄.get? b = some o := fun b o n1 n2 n3 e => hs₄.extBut b o n3 (hs₃.extBut b o n2 (keep₂ b o n1 e))
  have kp₄ : Kp g h₄ := fun b o e => keep₄ b o (fun q => by rw [q, hL] at e; cases e) (fun q => by rw [q, gd] at e; cases e) (fun q => by rw [q, gw] at e; cases e) (hkp b o e)
  refine wpAny_execs_nil ⟨rfl, m₂, h₄, _, rfl, hn₃.at' fun o e => hs₄.extBut L o (Ne.symm hwL) e, ⟨kp₄, sm₂, vda, vwe, _, _, pd₃.at fun o e => hs₄.extBut da o hdw e, pw₄, ?_, ?_⟩, keep₄⟩
  · rw [take_map_snoc he]
    exact vd.push ⟨t3, rfl⟩
  · rw [take_map_snoc he]
    exact vw.push ⟨t4, rfl⟩
end
end Mine
end

section
set_option maxRecDepth 100000
set_option linter.unusedVariables false
namespace Mine
open PySem PySem.Calls PyProof.Rows PySem.W
local macro_rules | `(tactic| walk_at "mget") => `(tactic| (repeat (first | assumption | exact if_pos rfl | refine (if_neg (by decide)).trans ?_)))

theorem edges_all {pts : List Pt} : (edges pts).take pts.length = edges pts := by rw [← edges_length, List.take_length]

section
variable {Z : Addr × Value} {prog : Program} {w : World} {A : Around} {E : Value → Shared → Prop} {s : Shared} {p : Program} {loose : List Str} {mg mb : Str → Option Value}

theorem pt_lists {L : Addr} {hb g : Heap} {ra : Addr} {px py : Int} {pts : List Pt} {m₀ : Str → Option Value} {Q : Flow → Shared → Prop} (hh : A.handled = none) (G : Gd w p loose mg mb hb) (kb : Kp hb g) (hr : RingAt g ra pts) (hL : g.get? L = none) (hsz : pts.length ≤ 66) (hbd : ∀ q ∈ pts, Small 1024 q) (hp : Small 3000 (px, py))
    (v1 : m₀ "ring" = some (.ref ra)) (v2 : ∃ t, m₀ "px" = some (.int px t)) (v3 : ∃ t, m₀ "py" = some (.int py t)) (hkp : Kp g s.heap) (hn : s.heap.Ns L m₀)
    (h : ∀ da wa h' tk m vs us, Kp g h' → h'.Ns L m → Same m₀ m → m "data" = some (.ref da) → m "weights" = some (.ref wa) → h'.PlainList da vs.toArray → h'.PlainList wa us.toArray → Vals IntV vs ((edges pts).map (dat px)) → Vals IntV us ((edges pts).map (wt px py)) →
      wpAny (model prog w) A (execs (ptBody.drop 2) (lenv Z L)) Q (fun _ _ => False) { s with heap := h', toks := tk }) :
    wpAny (model prog w) A (execs ptBody (lenv Z L)) Q (fun _ _ => False) s := by
  refine wpAny_execs_cons (Assign_Tuple_swapped (names := ["data", "weights"]) ?_)
  refine Tuple_ (spliced_more (wpAny_List (Calls.spliced_nil ⟨Nat.zero_le _, spliced_more (wpAny_List (Calls.spliced_nil ⟨Nat.zero_le _, spliced_none ?_⟩))⟩)))
  unfold newTuple
  refine wpAny_newObj_type ?_ (by show 2 ≤ sizeLine; decide)
  dsimp only
  generalize hda : s.heap.objs.size = da at *
  generalize hH1 : s.heap.push { cls := .type "list", data := .seq ([] : List Value).toArray } = H1 at *
  have z1 : H1.objs.size = da + 1 := by rw [← hH1, Heap.size_push, hda]
  generalize hwa : H1.objs.size = wa at *
  generalize hH2 : H1.push { cls := .type "list", data := .seq ([] : List Value).toArray } = H2 at *
  have z2 : H2.objs.size = wa + 1 := by rw [← hH2, Heap.size_push, hwa]
  have k1 : Kp s.heap H2 := by rw [← hH2, ← hH1]; exact (Kp.push _ _).trans (Kp.push _ _)
  have pd2 : H2.PlainList da ([] : List Value).toArray := ⟨0, by rw [← hH2, ← hH1, ← hda]; exact Heap.get?_push_of_some _ (Heap.get?_push_size _ rfl)⟩
  have pw2 : H2.PlainList wa ([] : List Value).toArray := ⟨0, by rw [← hH2, ← hwa]; exact Heap.get?_push_size _ rfl⟩
  have hlt : L < da := by rw [← hda]; exact hn.lt
  have hdw : da ≠ wa := by rw [z1]; exact Nat.ne_of_lt (Nat.lt_succ_self _)
  have hdL : da ≠ L := Nat.ne_of_gt hlt
  have hwL : wa ≠ L := by rw [z1]; exact Nat.ne_of_gt (Nat.lt_succ_of_lt hlt)
  have gd : g.get? da = none := by rw [← hda]; exact none_of_size hkp
  have gw : g.get? wa = none := by rw [← hwa]; exact none_of_size (hkp.trans (by rw [← hH1]; exact Kp.push _ _))
  have hkp2 : Kp g H2 := hkp.trans k1
  have hn2 : H2.Ns L m₀ := hn.keeps k1
  show wpAny _ _ (unpackItems (.ref H2.objs.size) (#[Value.ref da, Value.ref wa] : Array Value).size none) _ _ _
  refine unpackItems_tuple hh ⟨_, Heap.get?_push_size _ rfl, rfl, 0, rfl⟩ fun H3 he3 => ?_
  have keep3 : Kp H2 H3 := fun c o e => he3 c o (Nat.ne_of_lt (Heap.lt_size (Heap.get?_push_of_some _ e))) (Heap.get?_push_of_some _ e)
  have hn3 : H3.Ns L m₀ := hn2.keeps keep3
  show wpAny _ _ (assignInOrder [fun v => bindName (lenv Z L) "weights" v, fun v => bindName (lenv Z L) "data" v] [Value.ref wa, Value.ref da]) _ _ _
  refine assignInOrder_cons (wpAny_bindName (stl hn3 fun h₁ hn₁ hs₁ => ?_))
  refine assignInOrder_cons (wpAny_bindName (stl hn₁ fun h₂ hn₂ hs₂ => ?_))
  refine assignInOrder_nil ?_
  dsimp only
  have keep₂ : ∀ c o, c ≠ L → H3.get? c = some o → h₂.get? c = some o := fun c o n e => hs₂.extBut c o n (hs₁.extBut c o n e)
  have kp₂ : Kp g h₂ := kp_but (hkp2.trans keep3) keep₂ hL
  have pd₂ : h₂.PlainList da ([] : List Value).toArray := pd2.at fun o e => keep₂ da o hdL (keep3 da o e)
  have pw₂ : h₂.PlainList wa ([] : List Value).toArray := pw2.at fun o e => keep₂ wa o hwL (keep3 wa o e)
  have hr0 := hr
  obtain ⟨rv, hl, hpt⟩ := hr
  have hlen := hpt.1
  have sm₂ : Same m₀ (upd (upd m₀ "weights" (.ref wa)) "data" (.ref da)) := (Same.refl m₀).upd.upd
  refine wpAny_execs_cons (wpAny_For ?_)
  refine call_t1 rfl (ldb (G.keeps (kb.trans kp₂)) rfl PyProof.Rows.Boot.«range» ⟨rfl, ?_⟩)
  refine call_b1 rfl (ldb (G.keeps (kb.trans kp₂)) rfl PyProof.Rows.Boot.«len» ⟨rfl, ?_⟩)
  refine ldl hn₂ (sm₂.get v1) ?_
  have hsize : rv.toArray.size = pts.length := by simp [hlen]
  refine call_len_list (list_keeps hl kp₂) (by rw [hsize]; omega) ?_
  rw [hsize]
  refine call_range_1 ?_
  refine wpAny_pyIter_range (IsRange.new ..) (small_one (by decide) (by decide) (by omega) (by omega)) ?_
  dsimp only
  generalize hH : h₂.push _ = H
  have kH : Kp h₂ H := by rw [← hH]; exact Kp.push _ _
  have kpH : Kp g H := kp₂.trans kH
  have hnH : H.Ns L (upd (upd m₀ "weights" (.ref wa)) "data" (.ref da)) := hn₂.keeps kH
  have pdH := pd₂.at fun o e => kH da o e
  have pwH := pw₂.at fun o e => kH wa o e
  have hrs : Builtin.Range.rangeSize 0 (pts.length : Int) 1 = (pts.length : Int) := by rw [rangeSize_one]; split <;> omega
  have W : Walks prog w A H.objs.size [H.objs.size] [H.objs.size] pts.length (fun i v => i < pts.length ∧ ∃ t, v = .int (0 + i * 1) t) (fun i h => IsRangeIter h H.objs.size (0 + (i : Nat) * 1) ((pts.length : Int) - (i : Nat)) 1) := (Walks.range hh _ 0 1 pts.length).bound
  have hIL : L ≠ H.objs.size := Nat.ne_of_lt hnH.lt
  have hId : da ≠ H.objs.size := by obtain ⟨n, e⟩ := pdH; exact Nat.ne_of_lt (Heap.lt_size e)
  have hIw : wa ≠ H.objs.size := by obtain ⟨n, e⟩ := pwH; exact Nat.ne_of_lt (Heap.lt_size e)
  have hIb : g.get? H.objs.size = none := none_of_size kpH
  refine for_loop (env := lenv Z L) (W := W) (J := PJ g m₀ da wa px py pts) (m := (upd (upd m₀ "weights" (.ref wa)) "data" (.ref da))) ?_ ?_ ?_ ?_ ?_ ?_
  · intro hm
    exact hIL (List.mem_singleton.mp hm)
  · rintro i v m h₀ h₃ tk hi ⟨_, t, rfl⟩ hj hk hn₃ st₃
    have kp₃ : Kp g h₃ := kp_but2 hj.k hk hL (fun c hc => by rw [List.mem_singleton.mp hc]; exact hIb)
    rw [show (0 : Int) + (i : Int) * 1 = i by omega] at hn₃
    have nw : ∀ c : Addr, c ≠ H.objs.size → c ∉ [H.objs.size] := fun c hc hm => hc (List.mem_singleton.mp hm)
    have T := k_turn (Z := Z) (prog := prog) (w := w) (s := { s with heap := h₃, toks := tk }) hh hr0 hL hsz hbd hp v1 v2 v3 hdw hdL hwL gd gw hi hj kp₃ (fun ys x => x.at fun o e => hk da o hdL (nw da hId) e) (fun ys x => x.at fun o e => hk wa o hwL (nw wa hIw) e) hn₃
    refine wpAny_mono T (fun f s₃ r => ?_) fun _ _ x => x
    obtain ⟨e1, m', h', tk', e2, e3, e4, e5⟩ := r
    refine ⟨e1, m', h', tk', e2, e3, e4, fun b hb' o e => ?_⟩
    rw [List.mem_singleton.mp hb'] at e ⊢
    exact e5 _ o (Ne.symm hIL) (Ne.symm hId) (Ne.symm hIw) e
  · intro m h₀ h₃ tk hj hk hn₃
    have kp₃ : Kp g h₃ := kp_but2 hj.k hk hL (fun c hc => by rw [List.mem_singleton.mp hc]; exact hIb)
    obtain ⟨vs, us, pd, pw, vd, vw⟩ := hj.lists
    rw [edges_all] at vd vw
    have nw : ∀ c : Addr, c ≠ H.objs.size → c ∉ [H.objs.size] := fun c hc hm => hc (List.mem_singleton.mp hm)
    exact h da wa h₃ tk m vs us kp₃ hn₃ hj.same hj.data hj.weights (pd.at fun o e => hk da o hdL (nw da hId) e) (pw.at fun o e => hk wa o hwL (nw wa hIw) e) vd vw
  · show IsRangeIter _ _ (0 + ((0 : Nat) : Int) * 1) _ 1
    rw [hrs]
    simpa using Heap.get?_push_size _ rfl
  · exact hnH.push _
  · refine ⟨kpH.trans (Kp.push _ _), sm₂, ?_, ?_, [], [], pdH.at fun o e => Kp.push _ _ da o e, pwH.at fun o e => Kp.push _ _ wa o e, ?_, ?_⟩
    · walk_at "mget"
    · walk_at "mget"
    · exact Vals.nil _
    · exact Vals.nil _
end
end Mine
end

section
set_option maxRecDepth 100000
set_option linter.unusedVariables false
namespace Mine
open PySem PySem.Calls PyProof.Rows PySem.W
local macro_rules | `(tactic| walk_at "mget") => `(tactic| (repeat (first | assumption | exact if_pos rfl | refine (if_neg (by decide)).trans ?_)))

/-- the quotient of two ints, as the law computes it -/
def fq (N M : Int) : UInt64 := Float64.ofFrac (decide (N < 0) != decide (M < 0)) N.natAbs M.natAbs

/-- what due is -/
structure DueIs (h : Heap) (dv : Value) (D N M : Int) : Prop where
  num : D ≠ 0 → ∃ t, dv = .float (fq N M) t
  tup : D = 0 → ∃ T k, dv = .ref T ∧ h.TupAt T [.str msg0 k]
theorem DueIs.keeps {h h' : Heap} {dv : Value} {D N M : Int} (x : DueIs h dv D N M) (k : Kp h h') : DueIs h' dv D N M :=
  ⟨x.num, fun e => let ⟨T, i, e1, e2⟩ := x.tup e; ⟨T, i, e1, e2.keeps k⟩⟩

structure Ratio (u N M D : Int) : Prop where
  eq : u.natAbs * M.natAbs = N.natAbs * (2 * D).natAbs
  s1 : decide (u < 0) = decide (N < 0)
  s2 : decide (2 * D < 0) = decide (M < 0)
  nz : D ≠ 0 → M ≠ 0

theorem Ratio.ints (N D : Int) : Ratio (2 * N) N D D := by
  refine ⟨?_, ?_, ?_, fun h => h⟩
  · rw [Int.natAbs_mul, Int.natAbs_mul]
    simp [Nat.mul_comm, Nat.mul_left_comm]
  · rcases Int.lt_or_le N 0 with h | h
    · rw [decide_eq_true h, decide_eq_true (by omega)]
    · rw [decide_eq_false (by omega), decide_eq_false (by omega)]
  · rcases Int.lt_or_le D 0 with h | h
    · rw [decide_eq_true h, decide_eq_true (by omega)]
    · rw [decide_eq_false (by omega), decide_eq_false (by omega)]
theorem Ratio.halves (N D : Int) : Ratio N N (2 * D) D := ⟨rfl, rfl, rfl, fun h => by omega⟩

section
variable {prog : Program} {w : World} {A : Around} {E : Value → Shared → Prop} {s : Shared}

theorem cmp_tups {t T : Addr} {k k' : Tok} {Q : Value → Shared → Prop} (hu : A.units + 5 < cLine) (h1 : s.heap.TupAt t [.str msg0 k]) (h2 : s.heap.TupAt T [.str msg0 k']) (h : Q (.bool false) s) : wpAny (model prog w) A (compareOp .NotEq (.ref t) (.ref T)) Q E s := by
  obtain ⟨o, n, ho, hc, hd⟩ := h1
  obtain ⟨o', n', ho', hc', hd'⟩ := h2
  have r1 : Reads s.heap (.ref t) (.tuple [.str msg0]) ([] ++ []) := .tuple ho hc hd (.cons (.str msg0 k) .nil)
  have r2 : Reads s.heap (.ref T) (.tuple [.str msg0]) ([] ++ []) := .tuple ho' hc' hd' (.cons (.str msg0 k') .nil)
  have e : (!PyData.eqv (.tuple [.str msg0]) (.tuple [.str msg0])) = false := by decide +kernel
  have := SeqAt.rcNeAt_reads (A := A) r1 r2 (by decide +kernel) (by decide +kernel) (Nat.lt_of_le_of_lt (Nat.add_le_add_left (by decide +kernel) _) hu)
  rw [e] at this
  exact this prog w E Q h

theorem cmp_nums {x y : UInt64} {t t' : Tok} {u N M D : Int} {Q : Value → Shared → Prop} (hx : Is x u) (hy : Is y (2 * D)) (hD : D ≠ 0) (R : Ratio u N M D) (h : Q (.bool false) s) : wpAny (model prog w) A (compareOp .NotEq (.float (Float64.div x y) t) (.float (fq N M) t')) Q E s := by
  refine AutoFloatOps.ne_0 ?_
  have := quot_eq hx hy (by omega) (R.nz hD) R.eq R.s1 R.s2
  rw [show fq N M = Float64.ofFrac (decide (N < 0) != decide (M < 0)) N.natAbs M.natAbs from rfl, this]
  exact h
end
end Mine
end

section
set_option maxRecDepth 100000
set_option linter.unusedVariables false
namespace Mine
open PySem PySem.Calls PyProof.Rows PySem.W
local macro_rules | `(tactic| walk_at "mget") => `(tactic| (repeat (first | assumption | exact if_pos rfl | refine (if_neg (by decide)).trans ?_)))

theorem none_below {a b : Heap} {c : Addr} (k : Kp a b) (h : b.get? c = none) : a.get? c = none := by
  cases q : a.get? c with
  | none => rfl
  | some o => have := k _ _ q; rw [h] at this; cases this

/-- what stands around the law's body -/
structure Ar (Z : Addr × Value) (A : Around) (L : Addr) : Prop where
  hh : A.handled = none
  room : A.depth + 1 < recursionLimit
  units : A.units + 5 < cLine
  fr : A.frames = some [lenv Z L]

section
variable {Z : Addr × Value} {prog : Program} {w : World} {A : Around} {s : Shared} {p : Program} {loose : List Str} {mg mb : Str → Option Value}

theorem told_ne {L : Addr} {hb g : Heap} {u D N M : Int} {m : Str → Option Value} {dv : Value} {e1 e2 : Expr} {np cpos dp pos : Pos} {whole : Sem Value} {Q : Bool → Shared → Prop} (a : Ar Z A L) (G : Gd w p loose mg mb hb) (kb : Kp hb g) (hL : g.get? L = none)
    (mdue : m "due" = some dv) (hdue : DueIs g dv D N M) (R : Ratio u N M D) (kg : Kp g s.heap)
    (hs : starEach [e1, e2] (lenv Z L) = [(false, eval e1 (lenv Z L)), (false, eval e2 (lenv Z L))])
    (args : wpAny (model prog w) A (eval e1 (lenv Z L)) (fun v1 s₁ => wpAny (model prog w) A (eval e2 (lenv Z L)) (fun v2 s₂ => ∃ a b wr vs us h tk, v1 = .ref a ∧ v2 = .ref b ∧ s₂ = { s with heap := h, toks := tk } ∧ h.Ns L m ∧ Kp g h ∧ SeqAt h a vs ∧ WArg h b us wr ∧ (∀ c ∈ wr, g.get? c = none) ∧ Mix prog w vs us u D ∧ us.length ≤ 1000) (fun _ _ => False) s₁) (fun _ _ => False) s)
    (fin : ∀ h' tk', Kp g h' → h'.Ns L m → Q false { s with heap := h', toks := tk' }) :
    wpAny (model prog w) A (isTrue (.Compare (.Call (.Name "_law_told" np) [e1, e2] [] cpos) [.NotEq] [.Name "due" dp] pos) (lenv Z L) whole) Q (fun _ _ => False) s := by
  obtain ⟨o70, ho70, hd70⟩ := told_in G.K
  have hbL := none_below kb hL
  refine wpAny_isTrue_Compare1 ?_
  refine call_r2 (fd := fdAt 70) (o := o70) (a := 70) hs (ldg (G.keeps (kb.trans kg)) rfl ⟨rfl, ?_⟩)
  refine wpAny_mono args (fun v1 s₁ h₁ => wpAny_mono h₁ (fun v2 s₂ h₂ => ?_) fun _ _ x => x) fun _ _ x => x
  obtain ⟨a', b, wr, vs, us, h, tk, rfl, rfl, rfl, hn, kh, sa, wb, hw, X, hlen⟩ := h₂
  refine ⟨⟨kh _ _ (kb _ _ ho70), hd70⟩, ?_⟩
  have kg' : ∀ {h' : Heap}, KwL L wr h h' → Kp g h' := fun kw c o e => kw c o (fun q => by rw [q, hL] at e; cases e) (fun q => by rw [hw c q] at e; cases e) (kh c o e)
  refine told_spec (Lw := L) (le := lenv Z L) (hb := hb) (m := m) (vs := vs) (us := us) (u := u) (D := D) a.hh a.room G (kb.trans kh) hbL a.fr rfl (by show (fdAt 82).scope.kind ≠ .module; decide) hn sa wb (fun c hc => none_below kb (hw c hc)) (by omega) X ?_ ?_
  · intro hD h' tk' t x y hx hy kw hn'
    obtain ⟨t', rfl⟩ := hdue.num hD
    refine ldl hn' mdue ?_
    exact cmp_nums hx hy hD R (wpAny_truthy_bool (fin h' tk' (kg' kw) hn'))
  · intro hD h' tk' t k kw hn' htup
    obtain ⟨T, k', rfl, hT⟩ := hdue.tup hD
    refine ldl hn' mdue ?_
    exact cmp_tups a.units htup (hT.keeps (kg' kw)) (wpAny_truthy_bool (fin h' tk' (kg' kw) hn'))
end
end Mine
end

section
set_option maxRecDepth 100000
set_option linter.unusedVariables false
namespace Mine
open PySem PySem.Calls PyProof.Rows PySem.W
open Flt Float64
local macro_rules | `(tactic| walk_at "mget") => `(tactic| (repeat (first | assumption | exact if_pos rfl | refine (if_neg (by decide)).trans ?_)))

theorem half_is {q : Int} (h : q.natAbs ≤ 2 ^ 53) : Is (fq q 2) q := by
  have R : Right (fq q 2) (decide (q < 0) != decide ((2 : Int) < 0)) (q.natAbs * 2 ^ 1073) 1 := ofFrac_right (by decide) (by
    rw [show (2 : Int).natAbs = 2 from rfl, Nat.mul_one, Nat.mul_assoc, ← Nat.pow_succ]) (by decide)
  refine is_of_right R (by decide) h (by rw [Nat.one_mul]) fun _ => ?_
  cases decide (q < 0) <;> rfl

def sc1 (x : Str) : Scope := { kind := .function, names := [(".0", .local), (x, .local)], isGenerator := false, isCoroutine := false, more := [] }
def sc1f (x f : Str) : Scope := { kind := .function, names := [(".0", .local), (x, .local), (f, .globalImplicit)], isGenerator := false, isCoroutine := false, more := [] }
def sc2 (x y : Str) : Scope := { kind := .function, names := [(".0", .local), (x, .local), (y, .local)], isGenerator := false, isCoroutine := false, more := [] }

section
variable {prog : Program} {w : World} {A : Around} {E : Value → Shared → Prop} {s : Shared} {env : Env} {p : Program} {loose : List Str} {mg mb : Str → Option Value}

/-- a comprehension over numbers, which makes numbers: nothing of the heap is asked -/
theorem comp_nums {elt : Expr} {x y : Str} {px py pos : Pos} {scope : Scope} {ax : Addr} {vs : List Value} {ds : List Int} {P : Value → Int → Prop} {m : Str → Option Value} {Q : Value → Shared → Prop} (hh : A.handled = none)
    (hn : s.heap.Ns env.locals m) (hy : m y = some (.ref ax)) (hl : s.heap.IsList ax vs.toArray) (hlen : vs.length ≤ 1000) (hv : Vals IntV vs ds)
    (el : ∀ (C : Addr) (m : Str → Option Value) (h : Heap) (tk : Nat) (q : Int) (t : Tok) (Q : Value → Shared → Prop), q ∈ ds → Kp s.heap h → h.Ns C m → m x = some (.int q t) → (∀ v tk, P v q → Q v { s with heap := h, toks := tk }) →
      wpAny (model prog w) A (eval elt (compEnv scope C env)) Q (fun _ _ => False) { s with heap := h, toks := tk })
    (fin : ∀ D h' tk ys, Kp s.heap h' → s.heap.get? D = none → h'.IsList D ys.toArray → Vals P ys ds → Q (.ref D) { s with heap := h', toks := tk })
    (hx : ∀ C, (compEnv scope C env).kindOf x = some .local)
    (hfree : ∀ x ∈ scope.names, x.2 ≠ .free) (hcell : ∀ x ∈ scope.names, x.2 ≠ .cell) (hkind : scope.kind = .function) (hnames : ∀ x ∈ scope.names, x.2 = .local → scope.names.lookup x.1 = some .local)
    (hk : env.scope.kind = .function := by rfl) (hyl : env.kindOf y = some .local := by rfl) (hd : (y == ("__debug__" : Str)) = false := by decide)
    (hs : ∀ x, foldedSetIterable (.Name y py) env x = pure x := by intro _; rfl) :
    wpAny (model prog w) A (eval (.ListComp elt [⟨.Name x px, .Name y py, [], 0⟩] scope pos) env) Q E s := by
  refine comp_rule CompLoop.name hh hn hy hl hlen (fun i ys _ => Vals P ys (ds.take i)) (fun i m => ∃ q t, ds[i]? = some q ∧ m x = some (.int q t)) (Vals.nil P) ?_ ?_ ?_ ?_ hfree hcell hkind hnames hk hyl hd hs
  · intro I i v h tk Q E' _ _ _ hq
    exact wpAny_pure hq
  · intro C m h i v tk Q E' hi hk hn hq
    obtain ⟨q, h1, t, rfl⟩ := hv.2 i v hi
    refine PyProof.Rows.assign_Name (stl hn (fun h' hn' hs' => hq h' _ _ hn' ⟨q, t, h1, if_pos rfl⟩ (.but hs')) (hx C) ?_)
    show (scope.kind == .class || (scope.kind == .module && _)) = false
    rw [hkind]
    rfl
  · intro C m h g i ys tk hi hj ks kg hn hB
    obtain ⟨q, t, h1, h2⟩ := hB
    refine el C m h tk q t _ (List.mem_of_getElem? h1) (ks.trans kg) hn h2 fun v tk hp => ⟨h, tk, rfl, Kp.refl _, fun g' _ _ => ?_⟩
    rw [List.take_add_one, h1]
    exact hj.push hp
  · intro D h' tk g ys k1 hD hl' _ _ _ hlen' hj
    rw [hv.1, List.take_length] at hj
    exact fin D h' tk ys k1 hD hl' hj

theorem comp_half {ax : Addr} {vs : List Value} {ds : List Int} {m : Str → Option Value} {k : Nat} {p1 p2 p3 p4 p5 pos : Pos} {Q : Value → Shared → Prop} (hh : A.handled = none)
    (hn : s.heap.Ns env.locals m) (hy : m "data" = some (.ref ax)) (hl : s.heap.IsList ax vs.toArray) (hlen : vs.length ≤ 1000) (hv : Vals IntV vs ds) (hb : ∀ q ∈ ds, q.natAbs ≤ 2 ^ 52)
    (fin : ∀ D h' tk ys, Kp s.heap h' → s.heap.get? D = none → h'.IsList D ys.toArray → Vals HalfV ys ds → Q (.ref D) { s with heap := h', toks := tk })
    (hk : env.scope.kind = .function := by rfl) (hyl : env.kindOf "data" = some .local := by rfl) (hs : ∀ x, foldedSetIterable (.Name "data" p5) env x = pure x := by intro _; rfl) :
    wpAny (model prog w) A (eval (.ListComp (.BinOp (.Name "item" p1) .Div (.Constant (.int 2) k p2) p3) [⟨.Name "item" p4, .Name "data" p5, [], 0⟩] (sc1 "item") pos) env) Q E s := by
  refine comp_nums hh hn hy hl hlen hv (fun C m h tk q t Q hq hk hn hm hQ => ?_) fin (fun C => by rfl) (by decide) (by decide) rfl (by decide) hk hyl (by decide) hs
  refine wpAny_BinOp (ldl hn hm (wpAny_Constant_int ?_))
  have := hb q hq
  refine AutoIntOps.truediv_2 (by decide) (Flt.quot_fits (by decide) ?_) (hQ _ _ ⟨_, _, rfl, half_is (by omega)⟩)
  exact Nat.lt_of_le_of_lt this (Nat.pow_lt_pow_right (by decide) (by decide))

theorem comp_float {ax : Addr} {vs : List Value} {ds : List Int} {m : Str → Option Value} {p1 p2 p3 p4 p5 pos : Pos} {Q : Value → Shared → Prop} (hh : A.handled = none) (G : Gd w p loose mg mb s.heap)
    (hn : s.heap.Ns env.locals m) (hy : m "weights" = some (.ref ax)) (hl : s.heap.IsList ax vs.toArray) (hlen : vs.length ≤ 1000) (hv : Vals IntV vs ds) (hb : ∀ q ∈ ds, (q * 2).natAbs ≤ 2 ^ 52)
    (fin : ∀ D h' tk ys, Kp s.heap h' → s.heap.get? D = none → h'.IsList D ys.toArray → Vals WholeV ys ds → Q (.ref D) { s with heap := h', toks := tk })
    (hg : env.globals = mainGlobals := by rfl) (hbu : env.builtins = builtinsNs := by rfl)
    (hk : env.scope.kind = .function := by rfl) (hyl : env.kindOf "weights" = some .local := by rfl) (hs : ∀ x, foldedSetIterable (.Name "weights" p5) env x = pure x := by intro _; rfl) :
    wpAny (model prog w) A (eval (.ListComp (.Call (.Name "float" p1) [.Name "weight" p2] [] p3) [⟨.Name "weight" p4, .Name "weights" p5, [], 0⟩] (sc1f "weight" "float") pos) env) Q E s := by
  refine comp_nums hh hn hy hl hlen hv (fun C m h tk q t Q hq hk hn hm hQ => ?_) fin (fun C => by rfl) (by decide) (by decide) rfl (by decide) hk hyl (by decide) hs
  refine call_t1 rfl (ldb (G.keeps hk) rfl PyProof.Rows.Boot.«float» ⟨rfl, ?_⟩ (hg := hg) (hb := hbu))
  refine ldl hn hm ?_
  have := hb q hq
  refine call_float_int (Flt.fin_of_fits (not_over (by omega))) (hQ _ _ ⟨_, _, rfl, ofInt_is (by omega)⟩)
end
end Mine
end

section
set_option maxRecDepth 100000
set_option linter.unusedVariables false
namespace Mine
open PySem PySem.Calls PyProof.Rows PySem.W
local macro_rules | `(tactic| walk_at "mget") => `(tactic| (repeat (first | assumption | exact if_pos rfl | refine (if_neg (by decide)).trans ?_)))

theorem over {L : Addr} {h h' : Heap} (k : KpL L h h') {c : Addr} {o : Obj} (n : c ≠ L) (e : h.get? c = some o) : (hideAll h' [L]).get? c = some o :=
  hideAll_get _ (k c o n e) fun q => n (List.mem_singleton.mp q)
theorem over_kp {L : Addr} {g h h' : Heap} (k : KpL L h h') (kg : Kp g h) (gL : g.get? L = none) : Kp g (hideAll h' [L]) := fun c o e => over k (fun q => by rw [q, gL] at e; cases e) (kg c o e)
theorem over_list {L l : Addr} {h h' : Heap} {xs : Array Value} {m : Str → Option Value} (k : KpL L h h') (n : h.Ns L m) (x : h.IsList l xs) : (hideAll h' [L]).IsList l xs := by
  obtain ⟨o, ho, hc, i, hd⟩ := x
  refine ⟨o, over k ?_ ho, hc, i, hd⟩
  rintro rfl
  obtain ⟨o', es, ep, ho', hd', _⟩ := n
  rw [ho] at ho'; cases ho'; rw [hd] at hd'; cases hd'
theorem over_due {L : Addr} {h h' : Heap} {dv : Value} {D N M : Int} {m : Str → Option Value} (k : KpL L h h') (n : h.Ns L m) (x : DueIs h dv D N M) : DueIs (hideAll h' [L]) dv D N M := by
  refine ⟨x.num, fun e => ?_⟩
  obtain ⟨T, i, e1, o, j, ho, hc, hd⟩ := x.tup e
  refine ⟨T, i, e1, o, j, over k ?_ ho, hc, hd⟩
  rintro rfl
  obtain ⟨o', es, ep, ho', hd', _⟩ := n
  rw [ho] at ho'; cases ho'; rw [hd] at hd'; cases hd'
theorem hide_kp {L : Addr} {h : Heap} : Kp (hideAll h [L]) h := fun c o e => of_hideAll _ e

section
variable {prog : Program} {w : World} {A : Around} {E : Value → Shared → Prop} {s : Shared} {env : Env}

theorem due1 {N D : Int} {m : Str → Option Value} {k k2 k3 : Nat} {p1 p2 p3 p4 p5 p6 p7 p8 p9 : Pos} {Q : Value → Shared → Prop} (hn : s.heap.Ns env.locals m) (mt : ∃ t, m "top" = some (.int N t)) (ml : ∃ t, m "low" = some (.int D t)) (hN : N.natAbs ≤ 2 ^ 52)
    (h : ∀ h' tk dv, Kp s.heap h' → DueIs h' dv D N D → Q dv { s with heap := h', toks := tk })
    (hk : env.scope.kind = .function := by rfl) (h1 : env.kindOf "top" = some .local := by rfl) (h2 : env.kindOf "low" = some .local := by rfl) :
    wpAny (model prog w) A (eval (.IfExp (.Compare (.Name "low" p1) [.NotEq] [.Constant (.int 0) k p2] p3) (.BinOp (.Name "top" p4) .Div (.Name "low" p5) p6) (.Tuple [.Constant (.str msg0) k2 p7] k3 p8) p9) env) Q E s := by
  obtain ⟨t1, mt⟩ := mt
  obtain ⟨t2, ml⟩ := ml
  refine wpAny_IfExp (wpAny_isTrue_Compare1 (ldl hn ml (wpAny_Constant_int (PyProof.Rows.ne_int (wpAny_truthy_bool ?_))) hk h2))
  by_cases hD : D = 0
  · subst hD
    show wpAny _ _ _ _ _ _
    refine Tuple_ (spliced_more (wpAny_Constant_str (spliced_none ?_)))
    unfold newTuple
    refine wpAny_newObj_type ?_ (by show 1 ≤ sizeLine; decide)
    exact h _ _ _ (Kp.push _ _) ⟨fun q => absurd rfl q, fun _ => ⟨_, _, rfl, _, 0, Heap.get?_push_size _ rfl, rfl, rfl⟩⟩
  · have hb : (D != 0) = true := by simp [hD]
    rw [hb]
    show wpAny _ _ _ _ _ _
    refine wpAny_BinOp (ldl hn mt (ldl hn ml ?_ hk h2) hk h1)
    refine AutoIntOps.truediv_2 (by simpa using hD) (Flt.quot_fits (by omega) (Nat.lt_of_le_of_lt hN (Nat.pow_lt_pow_right (by decide) (by decide)))) ?_
    exact h _ _ _ (Kp.refl _) ⟨fun _ => ⟨_, rfl⟩, fun q => absurd q hD⟩

theorem due2 {N D : Int} {dv : Value} {m : Str → Option Value} {k k2 : Nat} {p1 p2 p3 p4 p5 p6 p7 p8 p9 p10 : Pos} {Q : Value → Shared → Prop} (hn : s.heap.Ns env.locals m) (mt : ∃ t, m "top" = some (.int N t)) (ml : ∃ t, m "low" = some (.int D t)) (md : m "due" = some dv) (hN : N.natAbs ≤ 2 ^ 52)
    (h : ∀ tk dv', (D ≠ 0 → ∃ t, dv' = .float (fq N (2 * D)) t) → (D = 0 → dv' = dv) → Q dv' { s with toks := tk })
    (hk : env.scope.kind = .function := by rfl) (h1 : env.kindOf "top" = some .local := by rfl) (h2 : env.kindOf "low" = some .local := by rfl) (h3 : env.kindOf "due" = some .local := by rfl) :
    wpAny (model prog w) A (eval (.IfExp (.Compare (.Name "low" p1) [.NotEq] [.Constant (.int 0) k p2] p3) (.BinOp (.Name "top" p4) .Div (.BinOp (.Constant (.int 2) k2 p5) .Mult (.Name "low" p6) p7) p8) (.Name "due" p9) p10) env) Q E s := by
  obtain ⟨t1, mt⟩ := mt
  obtain ⟨t2, ml⟩ := ml
  refine wpAny_IfExp (wpAny_isTrue_Compare1 (ldl hn ml (wpAny_Constant_int (PyProof.Rows.ne_int (wpAny_truthy_bool ?_))) hk h2))
  by_cases hD : D = 0
  · subst hD
    show wpAny _ _ _ _ _ _
    exact ldl hn md (h _ _ (fun q => absurd rfl q) fun _ => rfl) hk h3
  · have hb : (D != 0) = true := by simp [hD]
    rw [hb]
    show wpAny _ _ _ _ _ _
    refine wpAny_BinOp (ldl hn mt (EvI.use (EvI.mul EvI.const (EvI.name hn ml hk h2) (by decide)) rfl fun t3 k3 => ?_) hk h1)
    refine AutoIntOps.truediv_2 (by simpa using hD) (Flt.quot_fits (by omega) (Nat.lt_of_le_of_lt hN (Nat.pow_lt_pow_right (by decide) (by decide)))) ?_
    exact h _ _ (fun _ => ⟨_, rfl⟩) fun q => absurd q hD
end
end Mine
end

section
set_option maxRecDepth 100000
set_option linter.unusedVariables false
namespace Mine
open PySem PySem.Calls PyProof.Rows PySem.W
local macro_rules | `(tactic| walk_at "mget") => `(tactic| (repeat (first | assumption | exact if_pos rfl | refine (if_neg (by decide)).trans ?_)))

section
variable {Z : Addr × Value} {prog : Program} {w : World} {A : Around} {s : Shared} {p : Program} {loose : List Str} {mg mb : Str → Option Value}

theorem pt_checks {L da wa : Addr} {hb g : Heap} {vs us : List Value} {ds ws : List Int} {N D : Int} {m : Str → Option Value} {Q : Flow → Shared → Prop} (a : Ar Z A L) (G : Gd w p loose mg mb hb) (kb : Kp hb g) (gL : g.get? L = none) (kg : Kp g s.heap) (hn : s.heap.Ns L m)
    (mt : ∃ t, m "top" = some (.int N t)) (ml : ∃ t, m "low" = some (.int D t)) (md : m "data" = some (.ref da)) (mw : m "weights" = some (.ref wa)) (pd : s.heap.IsList da vs.toArray) (pw : s.heap.IsList wa us.toArray)
    (vd : Vals IntV vs ds) (vw : Vals IntV us ws) (F : Fine ds ws) (e1 : ((ds.zip ws).map fun q => q.1 * q.2).sum = N) (e2 : ws.sum = D) (h0 : 0 < vs.length) (hlen : vs.length ≤ 1000)
    (fin : ∀ h' tk m', Kp g h' → h'.Ns L m' → Same m m' → Q .next { s with heap := h', toks := tk }) :
    wpAny (model prog w) A (execs (ptBody.drop 2) (lenv Z L)) Q (fun _ _ => False) s := by
  have hN : N.natAbs ≤ 2 ^ 52 := by
    have := F.p (ds.zip ws).length
    rw [List.take_length, e1] at this
    omega
  have hul : us.length = vs.length := (vd.pair vw F.len).1
  -- due
  refine wpAny_execs_cons (wpAny_Assign_Name (due1 hn mt ml hN fun h₁ k₁ dv kp₁ D₁ => ?_))
  have hn₁ : h₁.Ns L m := hn.keeps kp₁
  refine stl hn₁ fun h₂ hn₂ hs₂ => ?_
  dsimp only
  have kL : KpL L s.heap h₂ := (KpL.of kp₁).trans (.but hs₂)
  have kL₁ : KpL L h₁ h₂ := .but hs₂
  have kg₂ : Kp g (hideAll h₂ [L]) := over_kp kL kg gL
  have gL₂ : (hideAll h₂ [L]).get? L = none := hideAll_none _ (.head _)
  have pd₂ := over_list kL hn pd
  have pw₂ := over_list kL hn pw
  have D₂ := over_due kL₁ hn₁ D₁
  have kh₂ : Kp (hideAll h₂ [L]) h₂ := hide_kp
  generalize hideAll h₂ [L] = g₂ at *
  have kb₂ := kb.trans kg₂
  have md₂ : (upd m "due" dv) "data" = some (.ref da) := by walk_at "mget"
  have mw₂ : (upd m "due" dv) "weights" = some (.ref wa) := by walk_at "mget"
  have mdue : (upd m "due" dv) "due" = some dv := if_pos rfl
  have X := mix_ints (prog := prog) (w := w) vd vw F
  rw [e1, e2] at X
  -- the first two
  refine wpAny_execs_cons (wpAny_If (isTrue_or (told_ne a G kb₂ gL₂ mdue D₂ (.ints N D) kh₂ rfl ?_ fun h₃ k₃ kp₃ hn₃ => ?_)))
  · refine ldl hn₂ md₂ (ldl hn₂ mw₂ ?_)
    exact ⟨da, wa, [], vs, us, h₂, _, rfl, rfl, rfl, hn₂, kh₂, .inl (list_keeps pd₂ kh₂), .seq (.inl (list_keeps pw₂ kh₂)), fun c hc => (by cases hc), X, by omega⟩
  dsimp only
  show wpAny _ _ _ _ _ _
  refine isTrue_or (told_ne a G kb₂ gL₂ mdue D₂ (.ints N D) kp₃ rfl ?_ fun h₄ k₄ kp₄ hn₄ => ?_)
  · refine call_t1 rfl (ldb (G.keeps (kb₂.trans kp₃)) rfl PyProof.Rows.Boot.«tuple» ⟨rfl, ?_⟩)
    refine ldl hn₃ md₂ ?_
    refine call_tuple_list (list_keeps pd₂ kp₃) (fun h₅ k₅ => ?_) (by rw [List.size_toArray]; exact Nat.le_trans hlen (by decide))
    dsimp only
    have k₆ : Kp h₃ (h₅.push { cls := .type "tuple", data := .seq vs.toArray }) := Kp.trans k₅ (Kp.push _ _)
    have tT : (h₅.push { cls := .type "tuple", data := .seq vs.toArray }).IsTuple h₅.objs.size vs.toArray := ⟨_, Heap.get?_push_size _ rfl, rfl, 0, rfl⟩
    generalize (h₅.push { cls := .type "tuple", data := .seq vs.toArray }) = h₆ at *
    refine call_b1 rfl (ldb (G.keeps (kb₂.trans (kp₃.trans k₆))) rfl PyProof.Rows.Boot.«iter» ⟨rfl, ?_⟩)
    refine ldl (hn₃.keeps k₆) mw₂ ?_
    refine iter_l (list_keeps pw₂ (kp₃.trans k₆)) fun I h₇ k₇ hI lI => ?_
    exact ⟨_, I, [I], vs, us, h₇, _, rfl, rfl, rfl, (hn₃.keeps k₆).keeps k₇, (kp₃.trans k₆).trans k₇, .inr (tup_keeps tT k₇), .li wa lI, fun c hc => by rw [List.mem_singleton.mp hc]; exact none_below (kp₃.trans k₆) hI, X, by omega⟩
  dsimp only
  show wpAny _ _ _ _ _ _
  refine isTrue_or_nil ?_
  show wpAny _ _ _ _ _ _
  refine wpAny_execs_nil ?_
  -- due, halved
  refine wpAny_execs_cons (wpAny_Assign_Name (due2 hn₄ (N := N) (D := D) (by obtain ⟨t, e⟩ := mt; exact ⟨t, by walk_at "mget"⟩) (by obtain ⟨t, e⟩ := ml; exact ⟨t, by walk_at "mget"⟩) mdue hN fun k₅ dv' c1 c2 => ?_))
  refine stl hn₄ fun h₅ hn₅ hs₅ => ?_
  dsimp only
  have kp₅ : Kp g₂ h₅ := kp_but kp₄ (KpL.but hs₅) gL₂
  have D₅ : DueIs g₂ dv' D N (2 * D) := ⟨c1, fun e => by rw [c2 e]; exact D₂.tup e⟩
  have md₅ : (upd (upd m "due" dv) "due" dv') "data" = some (.ref da) := by walk_at "mget"
  have mw₅ : (upd (upd m "due" dv) "due" dv') "weights" = some (.ref wa) := by walk_at "mget"
  have mdue₅ : (upd (upd m "due" dv) "due" dv') "due" = some dv' := if_pos rfl
  -- the third
  have sm : Same m (upd (upd m "due" dv) "due" dv') := (Same.refl m).upd.upd
  refine wpAny_execs_cons (wpAny_If (told_ne a G kb₂ gL₂ mdue₅ D₅ (.halves N D) kp₅ rfl ?_ fun h₆ k₆ kp₆ hn₆ => ?_))
  · refine comp_half a.hh hn₅ md₅ (list_keeps pd₂ kp₅) hlen vd F.d fun Y h₆ k₆ ys q₆ hY lY vY => ?_
    refine call_t1 rfl (ldb (G.keeps (kb₂.trans (kp₅.trans q₆))) rfl PyProof.Rows.Boot.«tuple» ⟨rfl, ?_⟩)
    refine comp_float a.hh (G.keeps (kb₂.trans (kp₅.trans q₆))) (hn₅.keeps q₆) mw₅ (list_keeps pw₂ (kp₅.trans q₆)) (by omega) vw F.one fun Z h₇ k₇ zs q₇ hZ lZ vZ => ?_
    refine call_tuple_list lZ (fun h₈ q₈ => ?_) (by rw [List.size_toArray, vZ.1, ← vw.1]; exact Nat.le_trans (show us.length ≤ 1000 by omega) (by decide))
    dsimp only
    have q₉ : Kp h₇ (h₈.push { cls := .type "tuple", data := .seq zs.toArray }) := Kp.trans q₈ (Kp.push _ _)
    have tT : (h₈.push { cls := .type "tuple", data := .seq zs.toArray }).IsTuple h₈.objs.size zs.toArray := ⟨_, Heap.get?_push_size _ rfl, rfl, 0, rfl⟩
    generalize (h₈.push { cls := .type "tuple", data := .seq zs.toArray }) = h₉ at *
    have X' := mix_floats (prog := prog) (w := w) vY vZ F (by rw [vY.1, ← vd.1]; exact h0)
    rw [e1, e2] at X'
    exact ⟨Y, _, [], ys, zs, h₉, _, rfl, rfl, rfl, ((hn₅.keeps q₆).keeps q₇).keeps q₉, ((kp₅.trans q₆).trans q₇).trans q₉, .inl (list_keeps (list_keeps lY q₇) q₉), .seq (.inr tT), fun c hc => (by cases hc), X', by rw [vZ.1, ← vw.1]; omega⟩
  dsimp only
  show wpAny _ _ _ _ _ _
  refine wpAny_execs_nil ?_
  refine wpAny_execs_nil ?_
  exact fin h₆ k₆ _ (kg₂.trans kp₆) hn₆ sm
end
end Mine
end

section
set_option maxRecDepth 100000
set_option linter.unusedVariables false
namespace Mine
open PySem PySem.Calls PyProof.Rows PySem.W
local macro_rules | `(tactic| walk_at "mget") => `(tactic| (repeat (first | assumption | exact if_pos rfl | refine (if_neg (by decide)).trans ?_)))

section
variable {Z : Addr × Value} {prog : Program} {w : World} {A : Around} {s : Shared} {p : Program} {loose : List Str} {mg mb : Str → Option Value}

theorem pt_turn {L : Addr} {hb g : Heap} {ra : Addr} {px py : Int} {pts : List Pt} {m₀ : Str → Option Value} (a : Ar Z A L) (G : Gd w p loose mg mb hb) (kb : Kp hb g) (hr : RingAt g ra pts) (hL : g.get? L = none) (hsz : pts.length ≤ 66) (h0 : 0 < pts.length) (hbd : ∀ q ∈ pts, Small 1024 q) (hp : Small 3000 (px, py))
    (v1 : m₀ "ring" = some (.ref ra)) (v2 : ∃ t, m₀ "px" = some (.int px t)) (v3 : ∃ t, m₀ "py" = some (.int py t)) (mt : ∃ t, m₀ "top" = some (.int (top pts) t)) (ml : ∃ t, m₀ "low" = some (.int (low pts) t)) (hkp : Kp g s.heap) (hn : s.heap.Ns L m₀) :
    wpAny (model prog w) A (execs ptBody (lenv Z L)) (fun f s₃ => f = .next ∧ ∃ m' h' tk', s₃ = { s with heap := h', toks := tk' } ∧ h'.Ns L m' ∧ Same m₀ m' ∧ Kp g h') (fun _ _ => False) s := by
  refine pt_lists a.hh G kb hr hL hsz hbd hp v1 v2 v3 hkp hn fun da wa h₁ tk m vs us k₁ hn₁ sm md mw pd pw vd vw => ?_
  obtain ⟨t1, mt⟩ := mt
  obtain ⟨t2, ml⟩ := ml
  have hvl : vs.length = pts.length := by rw [vd.1, List.length_map, edges_length]
  refine pt_checks (N := top pts) (D := low pts) a G kb hL k₁ hn₁ ⟨t1, sm.get mt⟩ ⟨t2, sm.get ml⟩ md mw pd.isList pw.isList vd vw (fine_of hsz hbd hp) (zip_sum px py pts) (wt_sum px py pts) (by omega) (by omega) fun h₂ tk₂ m₂ k₂ hn₂ sm₂ => ?_
  exact ⟨rfl, m₂, h₂, tk₂, rfl, hn₂, sm.trans sm₂, k₂⟩
end

/-- a for over a list of pairs -/
theorem for_loopT {prog : Program} {w : World} {A : Around} {env : Env} {s : Shared} {x y : Str} {p1 p2 p3 : Pos} {kk : Nat} {body : List Stmt} {I ax : Addr} {vs : List Value} {m : Str → Option Value}
    {Q : Flow → Shared → Prop} {E : Value → Shared → Prop} (hh : A.handled = none) (hxI : ax ≠ I) (hLI : env.locals ≠ I) (hLx : env.locals ≠ ax) (J : Nat → (Str → Option Value) → Heap → Prop)
    (item : ∀ (i : Nat) (v : Value) (m : Str → Option Value) (h : Heap), vs[i]? = some v → J i m h → ∃ t a b, v = .ref t ∧ h.IsTuple t #[a, b])
    (turn : ∀ (i : Nat) (m : Str → Option Value) (h h₂ : Heap) (tk : Nat) (t : Addr) (a b : Value), vs[i]? = some (.ref t) → h.IsTuple t #[a, b] → J i m h → (∀ c o, c ≠ env.locals → c ≠ I → h.get? c = some o → h₂.get? c = some o) → h₂.Ns env.locals (upd (upd m x a) y b) → h₂.IsListIter I ax (i + 1) → h₂.IsList ax vs.toArray →
      wpAny (model prog w) A (execs body env) (fun f s₃ => f = .next ∧ ∃ m' h' tk', s₃ = { s with heap := h', toks := tk' } ∧ h'.Ns env.locals m' ∧ J (i + 1) m' h' ∧ (∀ c ∈ [I, ax], ∀ o, h₂.get? c = some o → h'.get? c = some o)) (fun _ _ => False) { s with heap := h₂, toks := tk })
    (done : ∀ m h h₁ tk, J vs.length m h → (∀ c o, c ≠ env.locals → c ≠ I → h.get? c = some o → h₁.get? c = some o) → h₁.Ns env.locals m → Q .next { s with heap := h₁, toks := tk })
    (st : s.heap.IsListIter I ax 0 ∧ s.heap.IsList ax vs.toArray) (hn : s.heap.Ns env.locals m) (j : J 0 m s.heap) (hx : env.kindOf x = some .local := by rfl) (hy : env.kindOf y = some .local := by rfl) (hp : (env.scope.kind == .class || (env.scope.kind == .module && env.locals != env.globals)) = false := by rfl) :
    codeAny (model prog w) A (.forLoop (.Tuple [.Name x p1, .Name y p2] kk p3) (.ref I) body [] env) (fun r s' => match r with | .ok f => Q f s' | .error e => cameBackBy (model prog w) A env E e s') s := by
  have W := Walks.list (prog := prog) (w := w) hh I ax hxI vs.toArray
  have hn0 : vs.toArray.size = vs.length := by simp
  refine codeAny_forLoop_any (fun k s' => ∃ i m h tk, s' = { s with heap := h, toks := tk } ∧ J i m h ∧ h.Ns env.locals m ∧ (h.IsListIter I ax i ∧ h.IsList ax vs.toArray) ∧ i ≤ vs.length ∧ k = vs.length - i) ?_ vs.length ⟨0, m, s.heap, s.toks, rfl, j, hn, st, Nat.zero_le _, rfl⟩
  rintro k s' ⟨i, m, h, tk, rfl, hj, hns, hst, hi, rfl⟩
  by_cases hlt : i < vs.length
  · refine W.item i _ _ _ (by rw [hn0]; exact hlt) hst fun v h₁ tk₁ hP hst₁ hk₁ => ?_
    have hv : vs[i]? = some v := by simpa using hP
    obtain ⟨t, a, b, rfl, hT⟩ := item i v m h hv hj
    dsimp only at hk₁ ⊢
    have k₁ : ∀ c o, c ≠ I → h.get? c = some o → h₁.get? c = some o := fun c o n e => hk₁ c o (fun q => n (List.mem_singleton.mp q)) e
    have hns₁ : h₁.Ns env.locals m := hns.at' fun o e => k₁ _ o hLI e
    have htI : t ≠ I := by
      rintro rfl
      obtain ⟨o, ho, hc, _⟩ := hT
      obtain ⟨⟨o', ho', hc', _⟩, _⟩ := hst
      rw [ho] at ho'; cases ho'
      rw [hc] at hc'; injection hc' with q
      exact absurd q (by decide)
    have hT₁ : h₁.IsTuple t #[a, b] := by obtain ⟨o, ho, r⟩ := hT; exact ⟨o, k₁ t o htI ho, r⟩
    refine wpAny_letOwnedTupleGo_listiter hst₁.1 ?_
    refine unpack2 hh hT₁ hns₁ (fun h₂ tk₂ hns₂ k₂ => ?_) hx hy hp
    dsimp only
    have hst₂ : h₂.IsListIter I ax (i + 1) ∧ h₂.IsList ax vs.toArray := by
      obtain ⟨⟨o, ho, r⟩, ⟨o', ho', r'⟩⟩ := hst₁
      exact ⟨⟨o, k₂ _ _ (Ne.symm hLI) ho, r⟩, ⟨o', k₂ _ _ (Ne.symm hLx) ho', r'⟩⟩
    refine never (wpAny_mono (turn i m h h₂ tk₂ t a b hv hT hj (fun c o n1 n2 e => k₂ c o n1 (k₁ c o n2 e)) hns₂ hst₂.1 hst₂.2) (fun f s₃ h₃ => ?_) fun _ _ x => x)
    obtain ⟨rfl, m', h', tk', rfl, hns', hj', hkeep⟩ := h₃
    refine ⟨vs.length - (i + 1), by omega, i + 1, m', h', tk', rfl, hj', hns', ?_, hlt, rfl⟩
    obtain ⟨⟨o, ho, r⟩, ⟨o', ho', r'⟩⟩ := hst₂
    exact ⟨⟨o, hkeep _ (.head _) _ ho, r⟩, ⟨o', hkeep _ (.tail _ (.head _)) _ ho', r'⟩⟩
  · have hin : i = vs.length := by omega
    subst hin
    refine W.done _ _ _ (by rw [hn0]; exact hst) fun h₁ tk₁ hk₁ => wpAny_execs_nil ?_
    have k₁ : ∀ c o, c ≠ I → h.get? c = some o → h₁.get? c = some o := fun c o n e => hk₁ c o (fun q => n (List.mem_singleton.mp q)) e
    exact done m h h₁ tk₁ hj (fun c o _ n2 e => k₁ c o n2 e) (hns.at' fun o e => k₁ _ o hLI e)
end Mine
end

section
set_option maxRecDepth 100000
set_option linter.unusedVariables false
namespace Mine
open PySem PySem.Calls PyProof.Rows PySem.W
local macro_rules | `(tactic| walk_at "mget") => `(tactic| (repeat (first | assumption | exact if_pos rfl | refine (if_neg (by decide)).trans ?_)))

theorem fdiv_bound {S : Int} {n : Nat} (h0 : 0 < n) (h1 : -(1024 * (n : Int)) ≤ S) (h2 : S ≤ 1024 * n) : -1024 ≤ S.fdiv n ∧ S.fdiv n ≤ 1024 := by
  have hn : (0 : Int) < n := by omega
  rw [Int.fdiv_eq_ediv_of_nonneg _ (Int.le_of_lt hn)]
  constructor
  · exact Int.le_ediv_of_mul_le hn (by omega)
  · have := Int.ediv_lt_of_lt_mul hn (a := S) (b := 1025) (by omega)
    omega

section
variable {prog : Program} {w : World} {A : Around} {E : Value → Shared → Prop} {s : Shared} {env : Env}

/-- [.. for x, y in ring] of a number of each point -/
theorem comp_pts {elt : Expr} {f : Pt → Int} {p2 p3 p4 p5 pos : Pos} {k : Nat} {ra : Addr} {pts : List Pt} {m : Str → Option Value} {Q : Value → Shared → Prop} (hh : A.handled = none)
    (hn : s.heap.Ns env.locals m) (hy : m "ring" = some (.ref ra)) (hr : RingAt s.heap ra pts) (hlen : pts.length ≤ 66)
    (el : ∀ (C : Addr) (m : Str → Option Value) (h : Heap) (tk : Nat) (q : Pt) (t u : Tok) (Q : Value → Shared → Prop), h.Ns C m → m "x" = some (.int q.1 t) → m "y" = some (.int q.2 u) → (∀ v tk, IntV v (f q) → Q v { s with heap := h, toks := tk }) →
      wpAny (model prog w) A (eval elt (compEnv (sc2 "x" "y") C env)) Q (fun _ _ => False) { s with heap := h, toks := tk })
    (fin : ∀ D h' tk ys, Kp s.heap h' → s.heap.get? D = none → h'.IsList D ys.toArray → Vals IntV ys (pts.map f) → Q (.ref D) { s with heap := h', toks := tk })
    (hk : env.scope.kind = .function := by rfl) (hyl : env.kindOf "ring" = some .local := by rfl)
    (hs : ∀ x, foldedSetIterable (.Name "ring" p5) env x = pure x := by intro _; rfl) :
    wpAny (model prog w) A (eval (.ListComp elt [⟨.Tuple [.Name "x" p2, .Name "y" p3] k p4, .Name "ring" p5, [], 0⟩] (sc2 "x" "y") pos) env) Q E s := by
  obtain ⟨rv, hl, hpt⟩ := hr
  have hlen' := hpt.1
  refine comp_rule CompLoop.pair hh hn hy hl (by omega) (fun i ys _ => Vals IntV ys ((pts.take i).map f)) (fun i m => ∃ q t u, pts[i]? = some q ∧ m "x" = some (.int q.1 t) ∧ m "y" = some (.int q.2 u)) (Vals.nil _) ?_ ?_ ?_ ?_ (by decide) (by decide) rfl (by decide) hk hyl (by decide) hs
  · intro I i v h tk Q E' hv _ hI hq
    obtain ⟨t, q, tx, ty, rfl, _, _⟩ := hpt.2 i v hv
    obtain ⟨j, hI⟩ := hI
    exact wpAny_letOwnedTupleGo_listiter hI hq
  · intro C m h i v tk Q E' hi hk hn hq
    obtain ⟨t, q, tx, ty, rfl, h1, h2⟩ := hpt.2 i v hi
    refine unpack2 hh (tup_keeps h2 hk) hn (fun h' tk' hn' k' => ?_) (by rfl) (by rfl) (by rfl)
    exact hq h' tk' _ hn' ⟨q, tx, ty, h1, by walk_at "mget", if_pos rfl⟩ k'
  · intro C m h g i ys tk hi hj ks kg hn hB
    obtain ⟨q, t, u, h1, h2, h3⟩ := hB
    refine el C m h tk q t u _ hn h2 h3 fun v tk hp => ⟨h, tk, rfl, Kp.refl _, fun g' _ _ => ?_⟩
    rw [List.take_add_one, h1, List.map_append]
    exact hj.push hp
  · intro D h' tk g ys k1 hD hl' _ _ _ _ hj
    rw [hlen', List.take_length] at hj
    exact fin D h' tk ys k1 hD hl' hj

theorem comp_x {p1 p2 p3 p4 p5 pos : Pos} {k : Nat} {ra : Addr} {pts : List Pt} {m : Str → Option Value} {Q : Value → Shared → Prop} (hh : A.handled = none)
    (hn : s.heap.Ns env.locals m) (hy : m "ring" = some (.ref ra)) (hr : RingAt s.heap ra pts) (hlen : pts.length ≤ 66)
    (fin : ∀ D h' tk ys, Kp s.heap h' → s.heap.get? D = none → h'.IsList D ys.toArray → Vals IntV ys (pts.map (·.1)) → Q (.ref D) { s with heap := h', toks := tk })
    (hk : env.scope.kind = .function := by rfl) (hyl : env.kindOf "ring" = some .local := by rfl)
    (hs : ∀ x, foldedSetIterable (.Name "ring" p5) env x = pure x := by intro _; rfl) :
    wpAny (model prog w) A (eval (.ListComp (.Name "x" p1) [⟨.Tuple [.Name "x" p2, .Name "y" p3] k p4, .Name "ring" p5, [], 0⟩] (sc2 "x" "y") pos) env) Q E s :=
  comp_pts hh hn hy hr hlen (fun C m h tk q t u Q hn hx hy hQ => ldl hn hx (hQ _ _ ⟨t, rfl⟩)) fin hk hyl hs
theorem comp_y {p1 p2 p3 p4 p5 pos : Pos} {k : Nat} {ra : Addr} {pts : List Pt} {m : Str → Option Value} {Q : Value → Shared → Prop} (hh : A.handled = none)
    (hn : s.heap.Ns env.locals m) (hy : m "ring" = some (.ref ra)) (hr : RingAt s.heap ra pts) (hlen : pts.length ≤ 66)
    (fin : ∀ D h' tk ys, Kp s.heap h' → s.heap.get? D = none → h'.IsList D ys.toArray → Vals IntV ys (pts.map (·.2)) → Q (.ref D) { s with heap := h', toks := tk })
    (hk : env.scope.kind = .function := by rfl) (hyl : env.kindOf "ring" = some .local := by rfl)
    (hs : ∀ x, foldedSetIterable (.Name "ring" p5) env x = pure x := by intro _; rfl) :
    wpAny (model prog w) A (eval (.ListComp (.Name "y" p1) [⟨.Tuple [.Name "x" p2, .Name "y" p3] k p4, .Name "ring" p5, [], 0⟩] (sc2 "x" "y") pos) env) Q E s :=
  comp_pts hh hn hy hr hlen (fun C m h tk q t u Q hn hx hy hQ => ldl hn hy (hQ _ _ ⟨u, rfl⟩)) fin hk hyl hs
end
end Mine
end

section
set_option maxRecDepth 100000
set_option linter.unusedVariables false
namespace Mine
open PySem PySem.Calls PyProof.Rows PySem.W
local macro_rules | `(tactic| walk_at "mget") => `(tactic| (repeat (first | assumption | exact if_pos rfl | refine (if_neg (by decide)).trans ?_)))

theorem mean_small {pts : List Pt} {f : Pt → Int} (h0 : 0 < pts.length) (hf : ∀ q ∈ pts, -1024 ≤ f q ∧ f q ≤ 1024) : -1024 ≤ (pts.map f).sum.fdiv (pts.length : Int) ∧ (pts.map f).sum.fdiv (pts.length : Int) ≤ 1024 := by
  have := sum_bound (B := 1024) (by decide) hf
  exact fdiv_bound h0 this.1 this.2

theorem fmod_small {T : Int} {n : Int} (hn : 0 < n) : 0 ≤ T.fmod n ∧ T.fmod n < n := ⟨Int.fmod_nonneg_of_pos _ hn, Int.fmod_lt_of_pos _ hn⟩

section
variable {Z : Addr × Value} {prog : Program} {w : World} {A : Around} {E : Value → Shared → Prop} {s : Shared} {p : Program} {loose : List Str} {mg mb : Str → Option Value}

theorem mean_of {L : Addr} {ce : Expr} {qs : List Int} {p1 p2 p3 p4 p5 p6 : Pos} {ra : Addr} {pts : List Pt} {m : Str → Option Value} {Q : Value → Shared → Prop} (hh : A.handled = none) (G : Gd w p loose mg mb s.heap) (hn : s.heap.Ns L m) (hy : m "ring" = some (.ref ra)) (hr : RingAt s.heap ra pts) (hlen : pts.length ≤ 66) (h0 : 0 < pts.length)
    (hc : ∀ {s' : Shared} {Q' : Value → Shared → Prop}, s'.heap = s.heap → (∀ D h' tk ys, Kp s'.heap h' → s'.heap.get? D = none → h'.IsList D ys.toArray → Vals IntV ys qs → Q' (.ref D) { s' with heap := h', toks := tk }) → wpAny (model prog w) A (eval ce (lenv Z L)) Q' E s')
    (hs : starEach [ce] (lenv Z L) = [(false, eval ce (lenv Z L))])
    (fin : ∀ h' tk t, Kp s.heap h' → Q (.int (qs.sum.fdiv pts.length) t) { s with heap := h', toks := tk }) :
    wpAny (model prog w) A (eval (.BinOp (.Call (.Name "sum" p1) [ce] [] p2) .FloorDiv (.Call (.Name "len" p3) [.Name "ring" p4] [] p5) p6) (lenv Z L)) Q E s := by
  refine wpAny_BinOp ?_
  refine call_b1 hs (ldb G rfl PyProof.Rows.Boot.«sum» ⟨rfl, ?_⟩)
  refine hc rfl fun D h₁ tk₁ ys k₁ hD lD vD => ?_
  refine sum_l hh lD vD fun h₂ tk₂ t k₂ => ?_
  dsimp only
  have kk : Kp s.heap h₂ := k₁.trans k₂
  refine call_b1 rfl (ldb (G.keeps kk) rfl PyProof.Rows.Boot.«len» ⟨rfl, ?_⟩)
  refine ldl (hn.keeps kk) hy ?_
  obtain ⟨rv, hl, hpt⟩ := hr
  have hsize : rv.toArray.size = pts.length := by simp [hpt.1]
  refine call_len_list (list_keeps hl kk) (by rw [hsize]; omega) ?_
  rw [hsize]
  exact PyProof.Rows.floordiv_int (by omega) (fin h₂ _ _ kk) (.inl (PyProof.noPylong_small (by omega)))

/-- the two checks of a ring, point of view by point of view -/
structure RJ (g : Heap) (ra : Addr) (pts : List Pt) (T : Int) (i : Nat) (m : Str → Option Value) (h : Heap) : Prop where
  k : Kp g h
  ring : m "ring" = some (.ref ra)
  top : ∃ t, m "top" = some (.int (top pts) t)
  low : ∃ t, m "low" = some (.int (low pts) t)
  total : ∃ t, m "total" = some (.int T t)

theorem new_tuple {vs : List Value} {Q : Value → Shared → Prop} (hl : vs.length ≤ 2) (h : ∀ D h', Kp s.heap h' → s.heap.get? D = none → h'.IsTuple D vs.toArray → Q (.ref D) { s with heap := h' }) : wpAny (model prog w) A (newTuple vs) Q E s := by
  unfold newTuple
  refine wpAny_newObj_type ?_ (by show vs.toArray.size ≤ sizeLine; rw [List.size_toArray]; exact Nat.le_trans hl (by decide))
  exact h _ _ (Kp.push _ _) (Heap.get?_none_of_le (Nat.le_refl _)) ⟨_, Heap.get?_push_size _ rfl, rfl, 0, rfl⟩

/-- what the four points of view are -/
def ViewAt (g : Heap) (v : Value) (q : Pt) : Prop := ∃ t a b, v = .ref t ∧ g.IsTuple t #[.int q.1 a, .int q.2 b]
theorem ViewAt.keeps {g h : Heap} {v : Value} {q : Pt} (x : ViewAt g v q) (k : Kp g h) : ViewAt h v q := let ⟨t, a, b, e, r⟩ := x; ⟨t, a, b, e, tup_keeps r k⟩

theorem views_loop {L : Addr} {hb g : Heap} {ra I ax : Addr} {pts : List Pt} {T : Int} {vs : List Value} {m₀ : Str → Option Value} {p1 p2 p3 : Pos} {k : Nat} {Q : Flow → Shared → Prop} (a : Ar Z A L) (G : Gd w p loose mg mb hb) (kb : Kp hb g) (hr : RingAt g ra pts) (gL : g.get? L = none) (hsz : pts.length ≤ 66) (h0 : 0 < pts.length) (hbd : ∀ q ∈ pts, Small 1024 q)
    (hv : ∀ (i : Nat) (v : Value), vs[i]? = some v → ∃ q, ViewAt g v q ∧ Small 3000 q) (hj : RJ g ra pts T 0 m₀ s.heap) (hn : s.heap.Ns L m₀) (hxI : ax ≠ I) (hLI : L ≠ I) (hLx : L ≠ ax) (gI : g.get? I = none) (st : s.heap.IsListIter I ax 0 ∧ s.heap.IsList ax vs.toArray)
    (fin : ∀ h' tk m', Kp g h' → h'.Ns L m' → (∃ t, m' "total" = some (.int T t)) → Q .next { s with heap := h', toks := tk }) :
    codeAny (model prog w) A (.forLoop (.Tuple [.Name "px" p1, .Name "py" p2] k p3) (.ref I) ptBody [] (lenv Z L)) (fun r s' => match r with | .ok f => Q f s' | .error e => cameBackBy (model prog w) A (lenv Z L) E e s') s := by
  refine for_loopT (env := lenv Z L) a.hh hxI hLI hLx (RJ g ra pts T) ?_ ?_ ?_ st hn hj
  · intro i v m h hi hj
    obtain ⟨q, ⟨t, a, b, e, r⟩, _⟩ := hv i v hi
    exact ⟨t, _, _, e, tup_keeps r hj.k⟩
  · intro i m h h₂ tk t x y hi hT hj hk hn₂ it₂ ax₂
    obtain ⟨q, ⟨t', b1, b2, e, hT'⟩, hq⟩ := hv i _ hi
    cases e
    have hT'' := tup_keeps hT' hj.k
    obtain ⟨o, ho, hc, n, hd⟩ := hT
    obtain ⟨o', ho', hc', n', hd'⟩ := hT''
    rw [ho] at ho'
    cases ho'
    rw [hd] at hd'
    injection hd' with hd'
    injection hd' with hd'
    simp only [List.cons.injEq, and_true] at hd'
    obtain ⟨rfl, rfl⟩ := hd'
    have kg₂ : Kp g h₂ := fun c o e => hk c o (fun q => by rw [show c = L from q, gL] at e; cases e) (fun q => by rw [q, gI] at e; cases e) (hj.k c o e)
    have kgh : Kp g (hideAll h₂ [L]) := over_kp (KpL.refl L h₂) kg₂ gL
    have hgL : (hideAll h₂ [L]).get? L = none := hideAll_none _ (.head _)
    obtain ⟨t1, e1⟩ := hj.top
    obtain ⟨t2, e2⟩ := hj.low
    obtain ⟨t3, e3⟩ := hj.total
    have hring := hj.ring
    refine wpAny_mono (pt_turn (px := q.1) (py := q.2) (g := hideAll h₂ [L]) a G (kb.trans kgh) (hr.keeps kgh) hgL hsz h0 hbd hq (by walk_at "mget") ⟨b1, by walk_at "mget"⟩ ⟨b2, by walk_at "mget"⟩ ⟨t1, by walk_at "mget"⟩ ⟨t2, by walk_at "mget"⟩ hide_kp hn₂) (fun f s₃ h₃ => ?_) fun _ _ x => x
    obtain ⟨rfl, m', h', tk', rfl, hn', sm, k'⟩ := h₃
    refine ⟨rfl, m', h', tk', rfl, hn', ⟨kgh.trans k', sm.get (by walk_at "mget"), ⟨t1, sm.get (by walk_at "mget")⟩, ⟨t2, sm.get (by walk_at "mget")⟩, ⟨t3, sm.get (by walk_at "mget")⟩⟩, fun c hc o ec => ?_⟩
    refine k' c o (over (KpL.refl L h₂) ?_ ec)
    simp only [List.mem_cons, List.not_mem_nil, or_false] at hc
    rcases hc with rfl | rfl
    · exact Ne.symm hLI
    · exact Ne.symm hLx
  · intro m h h₁ tk hj hk hn₁
    refine fin h₁ tk m (fun c o e => hk c o (fun q => by rw [show c = L from q, gL] at e; cases e) (fun q => by rw [q, gI] at e; cases e) (hj.k c o e)) hn₁ hj.total
end
end Mine
end

section
set_option maxRecDepth 100000
set_option linter.unusedVariables false
namespace Mine
open PySem PySem.Calls PyProof.Rows PySem.W
local macro_rules | `(tactic| walk_at "mget") => `(tactic| (repeat (first | assumption | exact if_pos rfl | refine (if_neg (by decide)).trans ?_)))

theorem over_tup {L l : Addr} {h h' : Heap} {xs : Array Value} {m : Str → Option Value} (k : KpL L h h') (n : h.Ns L m) (x : h.IsTuple l xs) : (hideAll h' [L]).IsTuple l xs := by
  obtain ⟨o, ho, hc, i, hd⟩ := x
  refine ⟨o, over k ?_ ho, hc, i, hd⟩
  rintro rfl
  obtain ⟨o', es, ep, ho', hd', _⟩ := n
  rw [ho] at ho'; cases ho'; rw [hd] at hd'; cases hd'

theorem due_in {w : World} {h : Heap} (K : (hd.heap_39 w.params).In h) : ∃ o, h.get? 77 = some o ∧ o.data = .func (fdAt 77) := fn_in K

section
variable {Z : Addr × Value} {prog : Program} {w : World} {A : Around} {s : Shared} {p : Program} {loose : List Str} {mg mb : Str → Option Value}

theorem ring_turn {L : Addr} {hb g : Heap} {ra : Addr} {pts : List Pt} {T : Int} {m₀ : Str → Option Value} (a : Ar Z A L) (G : Gd w p loose mg mb hb) (kb : Kp hb g) (hr : RingAt g ra pts) (gL : g.get? L = none) (hsz : pts.length ≤ 66) (h0 : 0 < pts.length) (hbd : ∀ q ∈ pts, Small 1024 q)
    (v1 : m₀ "ring" = some (.ref ra)) (vt : ∃ t, m₀ "total" = some (.int T t)) (kg : Kp g s.heap) (hn : s.heap.Ns L m₀) :
    wpAny (model prog w) A (execs ringBody (lenv Z L)) (fun f s₃ => f = .next ∧ ∃ m' h' tk', s₃ = { s with heap := h', toks := tk' } ∧ h'.Ns L m' ∧ (∃ t, m' "total" = some (.int T t)) ∧ Kp g h') (fun _ _ => False) s := by
  obtain ⟨tt, vt⟩ := vt
  obtain ⟨o77, ho77, hd77⟩ := due_in (G.keeps (kb.trans kg)).K
  refine wpAny_execs_cons (Assign_Tuple (call_r1 (fd := fdAt 77) (o := o77) (a := 77) rfl (ldg (G.keeps (kb.trans kg)) rfl ⟨rfl, ldl hn v1 ⟨⟨ho77, hd77⟩, ?_⟩⟩)))
  refine due_spec a.hh (Nat.lt_of_succ_lt a.room) (G.keeps (kb.trans kg)) (hr.keeps kg) hsz hbd fun td h₁ k₁ tx ty hT kp₁ => ?_
  refine unpack2 a.hh hT (hn.keeps kp₁) fun h₂ k₂ hn₂ kl₂ => ?_
  dsimp only at kl₂ ⊢
  have kg₂ : Kp g h₂ := kp_but (kg.trans kp₁) kl₂ gL
  have u1 : (upd (upd m₀ "top" (.int (top pts) tx)) "low" (.int (low pts) ty)) "ring" = some (.ref ra) := by walk_at "mget"
  have u2 : (upd (upd m₀ "top" (.int (top pts) tx)) "low" (.int (low pts) ty)) "total" = some (.int T tt) := by walk_at "mget"
  have u3 : (upd (upd m₀ "top" (.int (top pts) tx)) "low" (.int (low pts) ty)) "top" = some (.int (top pts) tx) := by walk_at "mget"
  have u4 : (upd (upd m₀ "top" (.int (top pts) tx)) "low" (.int (low pts) ty)) "low" = some (.int (low pts) ty) := by walk_at "mget"
  generalize (upd (upd m₀ "top" (.int (top pts) tx)) "low" (.int (low pts) ty)) = m₂ at *
  have G₂ := G.keeps (kb.trans kg₂)
  -- middle
  refine wpAny_execs_cons (wpAny_Assign_Name (Tuple_ (spliced_more ?_)))
  refine mean_of (qs := pts.map (·.1)) a.hh G₂ hn₂ u1 (hr.keeps kg₂) hsz h0 (fun {s'} {Q'} es hQ => comp_x a.hh (by rw [es]; exact hn₂) u1 (by rw [es]; exact hr.keeps kg₂) hsz hQ) rfl fun h₃ k₃ t₃ kp₃ => ?_
  dsimp only at kp₃ ⊢
  refine spliced_more ?_
  refine mean_of (qs := pts.map (·.2)) a.hh (G₂.keeps kp₃) (hn₂.keeps kp₃) u1 (hr.keeps (kg₂.trans kp₃)) hsz h0 (fun {s'} {Q'} es hQ => comp_y a.hh (by rw [es]; exact hn₂.keeps kp₃) u1 (by rw [es]; exact hr.keeps (kg₂.trans kp₃)) hsz hQ) rfl fun h₄ k₄ t₄ kp₄ => ?_
  dsimp only at kp₄ ⊢
  refine spliced_none (new_tuple (by simp) fun tm h₅ kp₅ htm hTm => ?_)
  dsimp only at kp₅ htm ⊢
  have hn₅ : h₅.Ns L m₂ := ((hn₂.keeps kp₃).keeps kp₄).keeps kp₅
  refine stl hn₅ fun h₆ hn₆ hs₆ => ?_
  dsimp only
  have kl₆ : KpL L h₅ h₆ := .but hs₆
  have kg₆ : Kp g h₆ := kp_but (((kg₂.trans kp₃).trans kp₄).trans kp₅) kl₆ gL
  have ntm : tm ≠ L := by
    rintro rfl
    obtain ⟨o, ho, _, i, hd⟩ := hTm
    obtain ⟨o', es, ep, ho', hd', _⟩ := hn₅
    rw [ho] at ho'; cases ho'; rw [hd] at hd'; cases hd'
  have hTm₆ : h₆.IsTuple tm #[.int ((pts.map fun q : Pt => q.1).sum.fdiv pts.length) t₃, .int ((pts.map fun q : Pt => q.2).sum.fdiv pts.length) t₄] := by
    obtain ⟨o, ho, r⟩ := hTm
    exact ⟨o, kl₆ tm o ntm ho, r⟩
  have w1 : (upd m₂ "middle" (.ref tm)) "ring" = some (.ref ra) := by walk_at "mget"
  have w2 : (upd m₂ "middle" (.ref tm)) "total" = some (.int T tt) := by walk_at "mget"
  have w3 : (upd m₂ "middle" (.ref tm)) "top" = some (.int (top pts) tx) := by walk_at "mget"
  have w4 : (upd m₂ "middle" (.ref tm)) "low" = some (.int (low pts) ty) := by walk_at "mget"
  have w5 : (upd m₂ "middle" (.ref tm)) "middle" = some (.ref tm) := if_pos rfl
  generalize (upd m₂ "middle" (.ref tm)) = m₆ at *
  -- the four points of view
  obtain ⟨rv, hl, hpt⟩ := id hr
  refine wpAny_execs_cons (wpAny_For (wpAny_List ?_))
  refine spliced_more (ldl hn₆ w5 (spliced_more ?_))
  refine Subscript_ (ldl hn₆ w1 (wpAny_Constant_int ?_))
  refine subscriptTail_builtin (T := "list") (list_keeps hl kg₆).typeIs list_getitem_lookup ?_
  refine ring_item (j := 0) (list_keeps hl kg₆) (hpt.keeps kg₆) hsz h0 (.inl rfl) fun t0 q0 ux uy hq0 hT0 => ?_
  refine spliced_more (Tuple_ (spliced_more (EvI.const.use rfl fun x1 x2 => spliced_more (EvI.use (EvI.neg EvI.const) rfl fun x3 x4 => spliced_none (new_tuple (by simp) fun t3 h₇ kp₇ ht3 hT3 => ?_)))))
  dsimp only at kp₇ ⊢
  have hn₇ := hn₆.keeps kp₇
  refine spliced_more (Tuple_ (spliced_more (EvI.use (EvI.mod (EvI.name hn₇ w2) EvI.const (by decide)) rfl fun x5 x6 => spliced_more (EvI.use (EvI.mod (EvI.name hn₇ w2) EvI.const (by decide)) rfl fun x7 x8 => spliced_none (new_tuple (by simp) fun t5 h₈ kp₈ ht5 hT5 => ?_)))))
  dsimp only at kp₈ ⊢
  refine spliced_none ⟨by show 4 ≤ sizeLine; decide, ?_⟩
  have hn₈ := hn₇.keeps kp₈
  have kg₈ : Kp g h₈ := (kg₆.trans kp₇).trans kp₈
  refine wpAny_pyIter_list (items := [Value.ref tm, .ref t0, .ref t3, .ref t5].toArray) ⟨_, Heap.get?_push_size _ rfl, rfl, 0, rfl⟩ ?_
  dsimp only
  generalize hax : h₈.objs.size = ax at *
  generalize hH9 : h₈.push { cls := .type "list", data := .seq [Value.ref tm, .ref t0, .ref t3, .ref t5].toArray } = h₉ at *
  have z9 : h₉.objs.size = ax + 1 := by rw [← hH9, Heap.size_push, hax]
  have lx : h₉.IsList ax [Value.ref tm, .ref t0, .ref t3, .ref t5].toArray := by rw [← hH9, ← hax]; exact ⟨_, Heap.get?_push_size _ rfl, rfl, 0, rfl⟩
  have kp₉ : Kp h₈ h₉ := by rw [← hH9]; exact Kp.push _ _
  have kgg : Kp g (hideAll h₈ [L]) := over_kp (KpL.refl L h₈) kg₈ gL
  have ggL : (hideAll h₈ [L]).get? L = none := hideAll_none _ (.head _)
  have kg9 : Kp (hideAll h₈ [L]) h₉ := Kp.trans hide_kp kp₉
  have kp67 := kp₇.trans kp₈
  have Tm : (hideAll h₈ [L]).IsTuple tm _ := over_tup (KpL.refl L h₈) hn₈ (tup_keeps hTm₆ kp67)
  have T0 : (hideAll h₈ [L]).IsTuple t0 _ := over_tup (KpL.refl L h₈) hn₈ (tup_keeps hT0 kp67)
  have T3 : (hideAll h₈ [L]).IsTuple t3 _ := over_tup (KpL.refl L h₈) hn₈ (tup_keeps hT3 kp₈)
  have T5 : (hideAll h₈ [L]).IsTuple t5 _ := over_tup (KpL.refl L h₈) hn₈ hT5
  have hLax : L < ax := by rw [← hax]; exact hn₈.lt
  refine views_loop (g := hideAll h₈ [L]) (ra := ra) (T := T) (vs := [Value.ref tm, .ref t0, .ref t3, .ref t5]) (m₀ := m₆) a G (kb.trans kgg) (hr.keeps kgg) ggL hsz h0 hbd ?_ ⟨kg9.trans (Kp.push _ _), w1, ⟨tx, w3⟩, ⟨ty, w4⟩, ⟨tt, w2⟩⟩ ((hn₈.keeps kp₉).push _) ?_ ?_ ?_ ?_ ⟨⟨_, Heap.get?_push_size _ rfl, rfl, rfl⟩, lx.push _⟩ fun h' tk' m' k' hn' ht' => ?_
  · have b1 := mean_small (f := (·.1)) h0 fun q hq => ⟨(hbd q hq).1, (hbd q hq).2.1⟩
    have b2 := mean_small (f := (·.2)) h0 fun q hq => ⟨(hbd q hq).2.2.1, (hbd q hq).2.2.2⟩
    have b3 := hbd q0 (List.mem_of_getElem? hq0)
    have b4 := fmod_small (T := T) (n := 513) (by decide)
    have b5 := fmod_small (T := T) (n := 257) (by decide)
    intro i v hi
    match i, hi with
    | 0, hi =>
      cases hi
      exact ⟨((pts.map fun q : Pt => q.1).sum.fdiv pts.length, (pts.map fun q : Pt => q.2).sum.fdiv pts.length), ⟨tm, t₃, t₄, rfl, Tm⟩, by unfold Small; simp only; omega⟩
    | 1, hi =>
      cases hi
      exact ⟨q0, ⟨t0, ux, uy, rfl, T0⟩, by unfold Small at b3 ⊢; omega⟩
    | 2, hi =>
      cases hi
      exact ⟨(3000, -2000), ⟨t3, x1, x3, rfl, T3⟩, by unfold Small; simp only; omega⟩
    | 3, hi =>
      cases hi
      exact ⟨(T.fmod 513, T.fmod 257), ⟨t5, x5, x7, rfl, T5⟩, by unfold Small; simp only; omega⟩
  · rw [z9]; exact Nat.ne_of_lt (Nat.lt_succ_self _)
  · rw [z9]; exact Nat.ne_of_lt (Nat.lt_succ_of_lt hLax)
  · exact Nat.ne_of_lt hLax
  · exact none_of_size kg9
  · exact wpAny_execs_nil ⟨rfl, m', h', tk', rfl, hn', ht', kgg.trans k'⟩
end
end Mine
end

section
set_option maxRecDepth 100000
set_option linter.unusedVariables false
namespace Mine
open PySem PySem.Calls PyProof.Rows PySem.W
local macro_rules | `(tactic| walk_at "mget") => `(tactic| (repeat (first | assumption | exact if_pos rfl | refine (if_neg (by decide)).trans ?_)))

theorem PtsAt.nil (h : Heap) : PtsAt h [] [] := ⟨rfl, fun i v e => by simp at e⟩
theorem PtsAt.append {h : Heap} {vs us : List Value} {ps qs : List Pt} (x : PtsAt h vs ps) (y : PtsAt h us qs) : PtsAt h (vs ++ us) (ps ++ qs) := by
  refine ⟨by simp [x.1, y.1], fun i v e => ?_⟩
  by_cases hi : i < vs.length
  · rw [List.getElem?_append_left hi] at e
    rw [List.getElem?_append_left (by rw [← x.1]; exact hi)]
    exact x.2 i v e
  · rw [List.getElem?_append_right (by omega)] at e
    rw [List.getElem?_append_right (by rw [← x.1]; omega), ← x.1]
    exact y.2 _ v e
theorem PtsAt.one {h : Heap} {T : Addr} {p : Pt} {a b : Tok} (hT : h.IsTuple T #[.int p.1 a, .int p.2 b]) : PtsAt h [.ref T] [p] := by
  refine ⟨rfl, fun i v e => ?_⟩
  cases i with
  | zero => cases e; exact ⟨T, p, a, b, rfl, rfl, hT⟩
  | succ i => simp at e
theorem PtsAt.drop {h : Heap} {vs : List Value} {ps : List Pt} (x : PtsAt h vs ps) (k : Nat) : PtsAt h (vs.drop k) (ps.drop k) := by
  refine ⟨by simp [x.1], fun i v e => ?_⟩
  rw [List.getElem?_drop] at e ⊢
  exact x.2 _ v e
theorem PtsAt.take {h : Heap} {vs : List Value} {ps : List Pt} (x : PtsAt h vs ps) (k : Nat) : PtsAt h (vs.take k) (ps.take k) := by
  refine ⟨by simp [x.1], fun i v e => ?_⟩
  rw [List.getElem?_take] at e ⊢
  split at e
  · rename_i hk
    rw [if_pos hk]
    exact x.2 _ v e
  · cases e
theorem PtsAt.swap {h : Heap} {u v : Value} {p q : Pt} (x : PtsAt h [u, v] [p, q]) : PtsAt h [v, u] [q, p] := by
  have a := x.2 0 u rfl
  have b := x.2 1 v rfl
  refine ⟨rfl, fun i z e => ?_⟩
  match i, e with
  | 0, e =>
    cases e
    obtain ⟨t, r, tx, ty, e1, e2, e3⟩ := b
    exact ⟨t, r, tx, ty, e1, e2, e3⟩
  | 1, e =>
    cases e
    obtain ⟨t, r, tx, ty, e1, e2, e3⟩ := a
    exact ⟨t, r, tx, ty, e1, e2, e3⟩

theorem upto_all {vs : List Value} (h : vs.length ≤ 63) : slicePick vs.toArray none (some 63) none = vs.toArray := by
  rw [show slicePick vs.toArray none (some 63) none = slicePick vs.toArray none none none from ?_, slicePick_all]
  unfold slicePick
  have e : sliceBounds none (some 63) none vs.toArray.size = sliceBounds none none none vs.toArray.size := by
    simp only [sliceBounds, Option.getD_none, List.size_toArray]
    rw [if_neg (show ¬ ((63 : Int) < 0) by decide)]
    simp only [show (1 : Int) > 0 by decide, if_true]
    congr 2
    omega
  rw [e]

/-- the point that a number of the script is -/
def ptOf (x : Int) : Pt := (x.fmod 2049 - 1024, (x.fdiv 2049).fmod 2049 - 1024)
theorem ptOf_small (x : Int) : Small 1024 (ptOf x) := by
  have a := fmod_small (T := x) (n := 2049) (by decide)
  have b := fmod_small (T := x.fdiv 2049) (n := 2049) (by decide)
  unfold Small ptOf
  simp only
  omega
def tailPts : List Pt := [(7, -3), (5, 11), (-9, 2)]

section
variable {prog : Program} {w : World} {A : Around} {E : Value → Shared → Prop} {s : Shared} {env : Env} {h : Heap} {a b : Int} {l r : Expr} {pos : Pos}
theorem EvI.fdiv (x : EvI (model prog w) A env h l a) (y : EvI (model prog w) A env h r b) (hb : b ≠ 0) (hs : b.natAbs < 1073741824) : EvI (model prog w) A env h (.BinOp l .FloorDiv r pos) (a.fdiv b) :=
  fun s Q E hs' hQ => wpAny_BinOp (x.use hs' fun _ _ => y.use hs' fun _ _ => PyProof.Rows.floordiv_int hb (hQ _ _) (.inl (PyProof.noPylong_small hs)))

/-- the points of the script -/
theorem comp_script {x1 x2 x3 x4 x5 x6 x7 x8 x9 x10 x11 x12 x13 x14 x15 : Pos} {k1 k2 k3 k4 k5 k6 : Nat} {ax : Addr} {vs : List Value} {ns : List Int} {m : Str → Option Value} {Q : Value → Shared → Prop} (hh : A.handled = none)
    (hn : s.heap.Ns env.locals m) (hy : m "script" = some (.ref ax)) (hl : s.heap.IsList ax vs.toArray) (hlen : vs.length ≤ 63) (hv : Vals IntV vs ns)
    (fin : ∀ D h' tk ys, Kp s.heap h' → s.heap.get? D = none → h'.IsList D ys.toArray → PtsAt h' ys (ns.map ptOf) → Q (.ref D) { s with heap := h', toks := tk })
    (hk : env.scope.kind = .function := by rfl) (hyl : env.kindOf "script" = some .local := by rfl) (hs : ∀ x, foldedSetIterable (.Name "script" x2) env x = pure x := by intro _; rfl) :
    wpAny (model prog w) A (eval (.ListComp (.Tuple [.BinOp (.BinOp (.Name "x" x3) .Mod (.Constant (.int 2049) k1 x4) x5) .Sub (.Constant (.int 1024) k2 x6) x7,
      .BinOp (.BinOp (.BinOp (.Name "x" x8) .FloorDiv (.Constant (.int 2049) k3 x9) x10) .Mod (.Constant (.int 2049) k4 x11) x12) .Sub (.Constant (.int 1024) k5 x13) x14] k6 x15) [⟨.Name "x" x1, .Name "script" x2, [], 0⟩] (sc1 "x") pos) env) Q E s := by
  refine comp_rule CompLoop.name hh hn hy hl (by omega) (fun i ys g => PtsAt g ys ((ns.take i).map ptOf)) (fun i m => ∃ q t, ns[i]? = some q ∧ m "x" = some (.int q t)) (PtsAt.nil _) ?_ ?_ ?_ ?_ (by decide) (by decide) rfl (by decide) hk hyl (by decide) hs
  · intro I i v h tk Q E' _ _ _ hq
    exact wpAny_pure hq
  · intro C m h i v tk Q E' hi hk hn hq
    obtain ⟨q, h1, t, rfl⟩ := hv.2 i v hi
    exact PyProof.Rows.assign_Name (stl hn (fun h' hn' hs' => hq h' _ _ hn' ⟨q, t, h1, if_pos rfl⟩ (.but hs')) (by rfl) (by rfl))
  · intro C m h g i ys tk hi hj ks kg hn hB
    obtain ⟨q, t, h1, h2⟩ := hB
    refine Tuple_ (spliced_more (EvI.use (EvI.sub (EvI.mod (EvI.name hn h2) EvI.const (by decide)) EvI.const) rfl fun t1 i1 => spliced_more (EvI.use (EvI.sub (EvI.mod (EvI.fdiv (EvI.name hn h2) EvI.const (by decide) (by decide)) EvI.const (by decide)) EvI.const) rfl fun t2 i2 => spliced_none (new_tuple (by simp) fun T h' k' hT hTT => ?_))))
    refine ⟨h', _, rfl, k', fun g' kg' new => ?_⟩
    rw [List.take_add_one, h1, List.map_append]
    refine (hj.keeps kg').append (PtsAt.one (T := T) (p := ptOf q) (a := t1) (b := t2) ?_)
    obtain ⟨o, ho, r⟩ := hTT
    exact ⟨o, new T o hT ho, r⟩
  · intro D h' tk g ys k1 hD hl' _ kg _ _ hj
    rw [hv.1, List.take_length] at hj
    exact fin D h' tk ys k1 hD hl' (hj.keeps kg)

/-- a ring with x and y turned about -/
def flipPt (q : Pt) : Pt := (q.2, q.1)
theorem comp_flip {x1 x2 x3 x4 x5 x6 x7 : Pos} {k1 k2 : Nat} {ra : Addr} {pts : List Pt} {m : Str → Option Value} {Q : Value → Shared → Prop} (hh : A.handled = none)
    (hn : s.heap.Ns env.locals m) (hy : m "ring" = some (.ref ra)) (hr : RingAt s.heap ra pts) (hlen : pts.length ≤ 66)
    (fin : ∀ D h' tk ys, Kp s.heap h' → s.heap.get? D = none → h'.IsList D ys.toArray → PtsAt h' ys (pts.map flipPt) → (∀ v ∈ ys, ∃ T, v = .ref T ∧ s.heap.get? T = none) → Q (.ref D) { s with heap := h', toks := tk })
    (hk : env.scope.kind = .function := by rfl) (hyl : env.kindOf "ring" = some .local := by rfl) (hs : ∀ x, foldedSetIterable (.Name "ring" x7) env x = pure x := by intro _; rfl) :
    wpAny (model prog w) A (eval (.ListComp (.Tuple [.Name "y" x1, .Name "x" x2] k1 x3) [⟨.Tuple [.Name "x" x4, .Name "y" x5] k2 x6, .Name "ring" x7, [], 0⟩] (sc2 "x" "y") pos) env) Q E s := by
  obtain ⟨rv, hl, hpt⟩ := hr
  have hlen' := hpt.1
  refine comp_rule CompLoop.pair hh hn hy hl (by omega) (fun i ys g => PtsAt g ys ((pts.take i).map flipPt) ∧ ∀ v ∈ ys, ∃ T, v = .ref T ∧ s.heap.get? T = none) (fun i m => ∃ q t u, pts[i]? = some q ∧ m "x" = some (.int q.1 t) ∧ m "y" = some (.int q.2 u)) ⟨PtsAt.nil _, fun v hv => by cases hv⟩ ?_ ?_ ?_ ?_ (by decide) (by decide) rfl (by decide) hk hyl (by decide) hs
  · intro I i v h tk Q E' hv _ hI hq
    obtain ⟨t, q, tx, ty, rfl, _, _⟩ := hpt.2 i v hv
    obtain ⟨j, hI⟩ := hI
    exact wpAny_letOwnedTupleGo_listiter hI hq
  · intro C m h i v tk Q E' hi hk hn hq
    obtain ⟨t, q, tx, ty, rfl, h1, h2⟩ := hpt.2 i v hi
    refine unpack2 hh (tup_keeps h2 hk) hn (fun h' tk' hn' k' => ?_) (by rfl) (by rfl) (by rfl)
    exact hq h' tk' _ hn' ⟨q, tx, ty, h1, by walk_at "mget", if_pos rfl⟩ k'
  · intro C m h g i ys tk hi hj ks kg hn hB
    obtain ⟨q, t, u, h1, h2, h3⟩ := hB
    refine Tuple_ (spliced_more (ldl hn h3 (spliced_more (ldl hn h2 (spliced_none (new_tuple (by simp) fun T h' k' hT hTT => ?_))))))
    refine ⟨h', _, rfl, k', fun g' kg' new => ?_⟩
    rw [List.take_add_one, h1, List.map_append]
    refine ⟨(hj.1.keeps kg').append (PtsAt.one (T := T) (p := flipPt q) (a := u) (b := t) ?_), fun v hv => ?_⟩
    · obtain ⟨o, ho, r⟩ := hTT
      exact ⟨o, new T o hT ho, r⟩
    · rcases List.mem_append.mp hv with hv | hv
      · exact hj.2 v hv
      · exact ⟨T, List.mem_singleton.mp hv, none_below (ks.trans kg) hT⟩
  · intro D h' tk g ys k1 hD hl' _ kg _ _ hj
    rw [hlen', List.take_length] at hj
    exact fin D h' tk ys k1 hD hl' (hj.1.keeps kg) hj.2
end
end Mine
end

section
set_option maxRecDepth 100000
set_option linter.unusedVariables false
namespace Mine
open PySem PySem.Calls PyProof.Rows PySem.W
local macro_rules | `(tactic| walk_at "mget") => `(tactic| (repeat (first | assumption | exact if_pos rfl | refine (if_neg (by decide)).trans ?_)))

/-- a list of rings -/
def RingsAt (h : Heap) (vs : List Value) (rs : List (List Pt)) : Prop := vs.length = rs.length ∧ ∀ (i : Nat) (v : Value), vs[i]? = some v → ∃ ra pts, v = .ref ra ∧ rs[i]? = some pts ∧ RingAt h ra pts
theorem RingsAt.nil (h : Heap) : RingsAt h [] [] := ⟨rfl, fun i v e => by simp at e⟩
theorem RingsAt.append {h : Heap} {vs us : List Value} {ps qs : List (List Pt)} (x : RingsAt h vs ps) (y : RingsAt h us qs) : RingsAt h (vs ++ us) (ps ++ qs) := by
  refine ⟨by simp [x.1, y.1], fun i v e => ?_⟩
  by_cases hi : i < vs.length
  · rw [List.getElem?_append_left hi] at e
    rw [List.getElem?_append_left (by rw [← x.1]; exact hi)]
    exact x.2 i v e
  · rw [List.getElem?_append_right (by omega)] at e
    rw [List.getElem?_append_right (by rw [← x.1]; omega), ← x.1]
    exact y.2 _ v e
theorem RingsAt.one {h : Heap} {ra : Addr} {pts : List Pt} (hr : RingAt h ra pts) : RingsAt h [.ref ra] [pts] := by
  refine ⟨rfl, fun i v e => ?_⟩
  cases i with
  | zero => cases e; exact ⟨ra, pts, rfl, rfl, hr⟩
  | succ i => simp at e
theorem RingsAt.keeps {h h' : Heap} {vs : List Value} {rs : List (List Pt)} (x : RingsAt h vs rs) (k : Kp h h') : RingsAt h' vs rs :=
  ⟨x.1, fun i v e => let ⟨ra, pts, e1, e2, e3⟩ := x.2 i v e; ⟨ra, pts, e1, e2, e3.keeps k⟩⟩
theorem over_ring {L l : Addr} {h h' : Heap} {pts : List Pt} {m : Str → Option Value} (k : KpL L h h') (n : h.Ns L m) (x : RingAt h l pts) : RingAt (hideAll h' [L]) l pts := by
  obtain ⟨vs, hl, hp⟩ := x
  refine ⟨vs, over_list k n hl, hp.1, fun i v e => ?_⟩
  obtain ⟨t, p, tx, ty, e1, e2, e3⟩ := hp.2 i v e
  exact ⟨t, p, tx, ty, e1, e2, over_tup k n e3⟩
theorem over_rings {L : Addr} {h h' : Heap} {vs : List Value} {rs : List (List Pt)} {m : Str → Option Value} (k : KpL L h h') (n : h.Ns L m) (x : RingsAt h vs rs) : RingsAt (hideAll h' [L]) vs rs :=
  ⟨x.1, fun i v e => let ⟨ra, pts, e1, e2, e3⟩ := x.2 i v e; ⟨ra, pts, e1, e2, over_ring k n e3⟩⟩

section
variable {prog : Program} {w : World} {A : Around} {E : Value → Shared → Prop} {s : Shared} {env : Env}

/-- [[(y, x) for x, y in ring] for ring in rings] -/
theorem comp_rings {x1 x2 x3 x4 x5 x6 x7 x8 x9 p1 p2 : Pos} {k1 k2 : Nat} {ax : Addr} {vs : List Value} {rs : List (List Pt)} {m : Str → Option Value} {Q : Value → Shared → Prop} (hh : A.handled = none)
    (hn : s.heap.Ns env.locals m) (hy : m "rings" = some (.ref ax)) (hl : s.heap.IsList ax vs.toArray) (hlen : vs.length ≤ 8) (hr : RingsAt s.heap vs rs) (hb : ∀ pts ∈ rs, pts.length ≤ 66)
    (fin : ∀ D h' tk ys, Kp s.heap h' → s.heap.get? D = none → h'.IsList D ys.toArray → RingsAt h' ys (rs.map fun pts => pts.map flipPt) → Q (.ref D) { s with heap := h', toks := tk })
    (hk : env.scope.kind = .function := by rfl) (hyl : env.kindOf "rings" = some .local := by rfl) (hs : ∀ x, foldedSetIterable (.Name "rings" x9) env x = pure x := by intro _; rfl) :
    wpAny (model prog w) A (eval (.ListComp (.ListComp (.Tuple [.Name "y" x1, .Name "x" x2] k1 x3) [⟨.Tuple [.Name "x" x4, .Name "y" x5] k2 x6, .Name "ring" x7, [], 0⟩] (sc2 "x" "y") p1) [⟨.Name "ring" x8, .Name "rings" x9, [], 0⟩] (sc1 "ring") p2) env) Q E s := by
  refine comp_rule CompLoop.name hh hn hy hl (by omega) (fun i ys g => RingsAt g ys ((rs.take i).map fun pts => pts.map flipPt)) (fun i m => ∃ ra pts, rs[i]? = some pts ∧ m "ring" = some (.ref ra) ∧ RingAt s.heap ra pts) (RingsAt.nil _) ?_ ?_ ?_ ?_ (by decide) (by decide) rfl (by decide) hk hyl (by decide) hs
  · intro I i v h tk Q E' _ _ _ hq
    exact wpAny_pure hq
  · intro C m h i v tk Q E' hi hk hn hq
    obtain ⟨ra, pts, rfl, h1, h2⟩ := hr.2 i v hi
    exact PyProof.Rows.assign_Name (stl hn (fun h' hn' hs' => hq h' _ _ hn' ⟨ra, pts, h1, if_pos rfl, h2⟩ (.but hs')) (by rfl) (by rfl))
  · intro C m h g i ys tk hi hj ks kg hn hB
    obtain ⟨ra, pts, h1, h2, h3⟩ := hB
    refine comp_flip hh hn h2 (h3.keeps (ks.trans kg)) (hb _ (List.mem_of_getElem? h1)) fun D h' tk' zs k' hD lD pD nD => ?_
    refine ⟨h', tk', rfl, k', fun g' kg' new => ?_⟩
    rw [List.take_add_one, h1, List.map_append]
    refine (hj.keeps kg').append (RingsAt.one ⟨zs, ?_, pD.1, fun i v e => ?_⟩)
    · obtain ⟨o, ho, r⟩ := lD
      exact ⟨o, new D o hD ho, r⟩
    · obtain ⟨t, p, tx, ty, rfl, e2, o, ho, r⟩ := pD.2 i v e
      obtain ⟨T, eT, hT⟩ := nD _ (List.mem_of_getElem? e)
      cases eT
      exact ⟨_, p, tx, ty, rfl, e2, o, new _ o hT ho, r⟩
  · intro D h' tk g ys k1 hD hl' _ kg _ _ hj
    rw [hr.1, List.take_length] at hj
    exact fin D h' tk ys k1 hD hl' (hj.keeps kg)
end
end Mine
end

section
set_option maxRecDepth 100000
set_option linter.unusedVariables false
namespace Mine
open PySem PySem.Calls PyProof.Rows PySem.W
local macro_rules | `(tactic| walk_at "mget") => `(tactic| (repeat (first | assumption | exact if_pos rfl | refine (if_neg (by decide)).trans ?_)))

/-- a ring that the law may turn to -/
structure Good (pts : List Pt) : Prop where
  pos : 0 < pts.length
  len : pts.length ≤ 66
  small : ∀ q ∈ pts, Small 1024 q
theorem Good.flip {pts : List Pt} (x : Good pts) : Good (pts.map flipPt) := by
  refine ⟨by rw [List.length_map]; exact x.pos, by rw [List.length_map]; exact x.len, fun q hq => ?_⟩
  obtain ⟨r, hr, rfl⟩ := List.mem_map.mp hq
  have := x.small r hr
  unfold Small flipPt at *
  simp only
  omega

section
variable {prog : Program} {w : World} {A : Around} {E : Value → Shared → Prop} {s : Shared} {env : Env}

theorem from_ring {e : Expr} {k : Int} {j : Nat} {x : Str} {p1 p2 p3 : Pos} {pa : Addr} {pts : List Pt} {m : Str → Option Value} {Q : Value → Shared → Prop} (hn : s.heap.Ns env.locals m) (hx : m x = some (.ref pa)) (hr : RingAt s.heap pa pts) (hsz : pts.length ≤ 66)
    (he : EvI (model prog w) A env s.heap e k) (hk : k = j ∧ j ≤ pts.length ∨ k = (j : Int) - pts.length ∧ j < pts.length)
    (h : ∀ D h' tk, Kp s.heap h' → s.heap.get? D = none → RingAt h' D (pts.drop j) → Q (.ref D) { s with heap := h', toks := tk })
    (hf : env.scope.kind = .function := by rfl) (hl : env.kindOf x = some .local := by rfl) (hd : (x == ("__debug__" : Str)) = false := by decide) :
    wpAny (model prog w) A (eval (.Subscript (.Name x p1) (.Slice (some e) none none p2) p3) env) Q E s := by
  obtain ⟨pv, lp, pp⟩ := hr
  have hlen := pp.1
  refine sub_slice (ldl hn hx (evalPart_some_step (EvI.use he rfl fun t i => evalPart_none_step (evalPart_none_step ?_))) hf hl hd)
  refine ⟨pa, pv.toArray, some k, none, none, rfl, lp, by rw [List.size_toArray]; omega, .int _ _, .none, .none, by simp, fun D h' k' hD lD => ?_⟩
  have ep : slicePick pv.toArray (some k) none none = (pv.drop j).toArray := by
    rcases hk with ⟨rfl, hj⟩ | ⟨rfl, hj⟩
    · exact slicePick_from pv.toArray j (by rw [List.size_toArray]; omega)
    · have := pick_from_neg pv.toArray (pts.length - j) (by omega) (by rw [List.size_toArray]; omega)
      rw [show (j : Int) - pts.length = -((pts.length - j : Nat) : Int) by omega, this, List.size_toArray, hlen, show pts.length - (pts.length - j) = j by omega]
  rw [ep] at lD
  exact h D h' i k' hD ⟨_, lD, (pp.keeps k').drop j⟩

/-- two points near the end, turned about -/
theorem rev_ring {k1 k2 k3 : Nat} {c1 c2 c3 c4 c5 c6 c7 c8 c9 c10 c11 : Pos} {x : Str} {pa : Addr} {pts : List Pt} {m : Str → Option Value} {Q : Value → Shared → Prop} (hn : s.heap.Ns env.locals m) (hx : m x = some (.ref pa)) (hr : RingAt s.heap pa pts) (hsz : pts.length ≤ 66) (h3 : 3 ≤ pts.length)
    (h : ∀ D h' tk qs, Kp s.heap h' → RingAt h' D qs → qs.length = 2 → (∀ q ∈ qs, q ∈ pts) → Q (.ref D) { s with heap := h', toks := tk })
    (hf : env.scope.kind = .function := by rfl) (hl : env.kindOf x = some .local := by rfl) (hd : (x == ("__debug__" : Str)) = false := by decide) :
    wpAny (model prog w) A (eval (.Subscript (.Subscript (.Name x c1) (.Slice (some (.UnaryOp .USub (.Constant (.int 3) k1 c2) c3)) (some (.UnaryOp .USub (.Constant (.int 1) k2 c4) c5)) none c6) c7)
      (.Slice none none (some (.UnaryOp .USub (.Constant (.int 1) k3 c8) c9)) c10) c11) env) Q E s := by
  obtain ⟨pv, lp, pp⟩ := hr
  have hlen := pp.1
  refine sub_slice (sub_slice (ldl hn hx (evalPart_some_step (EvI.use (EvI.neg EvI.const) rfl fun t i => evalPart_some_step (EvI.use (EvI.neg EvI.const) rfl fun t2 i2 => evalPart_none_step ?_))) hf hl hd))
  refine ⟨pa, pv.toArray, some (-3), some (-1), none, rfl, lp, by rw [List.size_toArray]; omega, .int _ _, .int _ _, .none, by simp, fun D h' k' hD lD => ?_⟩
  have ep := pick_run_neg pv.toArray 3 1 (by decide) (by decide) (by rw [List.size_toArray]; omega)
  rw [show slicePick pv.toArray (some (-3)) (some (-1)) none = slicePick pv.toArray (some (-((3 : Nat) : Int))) (some (-((1 : Nat) : Int))) none from rfl, ep, List.size_toArray, hlen] at lD
  have pD : PtsAt h' ((pv.drop (pts.length - 3)).take 2) ((pts.drop (pts.length - 3)).take 2) := ((pp.keeps k').drop _).take 2
  have hin : ∀ q ∈ (pts.drop (pts.length - 3)).take 2, q ∈ pts := fun q hq => List.mem_of_mem_drop (List.mem_of_mem_take hq)
  have l1 : ((pts.drop (pts.length - 3)).take 2).length = 2 := by simp; omega
  have l2 : ((pv.drop (pts.length - 3)).take 2).length = 2 := by rw [pD.1]; exact l1
  replace lD : h'.IsList D ((pv.drop (pts.length - 3)).take 2).toArray := lD
  generalize (pts.drop (pts.length - 3)).take 2 = qs at *
  generalize (pv.drop (pts.length - 3)).take 2 = us at *
  match us, qs, l1, l2 with
  | [u, v], [q, r], _, _ =>
    dsimp only
    refine evalPart_none_step (evalPart_none_step (evalPart_some_step (EvI.use (EvI.neg EvI.const) rfl fun t3 i3 => ?_)))
    refine ⟨D, #[u, v], none, none, some (-1), rfl, lD, by simp, .none, .none, .int _ _, by simp, fun D' h'' k'' hD' lD' => ?_⟩
    rw [pick_rev2] at lD'
    exact h D' h'' i3 [r, q] (Kp.trans k' k'') ⟨[v, u], lD', (pD.swap).keeps k''⟩ rfl (fun z hz => hin z (by
      simp only [List.mem_cons, List.not_mem_nil, or_false] at hz ⊢
      exact hz.symm))
end
end Mine
end

section
set_option maxRecDepth 100000
set_option linter.unusedVariables false
namespace Mine
open PySem PySem.Calls PyProof.Rows PySem.W
local macro_rules | `(tactic| walk_at "mget") => `(tactic| (repeat (first | assumption | exact if_pos rfl | refine (if_neg (by decide)).trans ?_)))

theorem RingAt.append {h : Heap} {vs us : List Value} {ps qs : List Pt} {D : Addr} (l : h.IsList D (vs ++ us).toArray) (x : PtsAt h vs ps) (y : PtsAt h us qs) : RingAt h D (ps ++ qs) := ⟨_, l, x.append y⟩

section
variable {Z : Addr × Value} {prog : Program} {w : World} {A : Around} {E : Value → Shared → Prop} {s : Shared} {p : Program} {loose : List Str} {mg mb : Str → Option Value}

theorem add_ring {l b : Addr} {ps qs : List Pt} {Q : Value → Shared → Prop} (hl : RingAt s.heap l ps) (hb : RingAt s.heap b qs) (hsz : ps.length + qs.length ≤ 1000)
    (h : ∀ D h', Kp s.heap h' → RingAt h' D (ps ++ qs) → Q (.ref D) { s with heap := h' }) : wpAny (model prog w) A (binaryOp .Add (.ref l) (.ref b)) Q E s := by
  obtain ⟨vs, l1, p1⟩ := hl
  obtain ⟨us, l2, p2⟩ := hb
  have e1 := p1.1
  have e2 := p2.1
  exact add_l l1 l2 (by omega) fun D h' k hD lD => h D h' k ⟨_, lD, (p1.keeps k).append (p2.keeps k)⟩

theorem IntsAre.vals : ∀ {vs : List Value} {ns : List Int}, IntsAre vs ns → Vals IntV vs ns
  | _, _, .nil => Vals.nil _
  | _, _, .cons n t h => by
    have ih := IntsAre.vals h
    refine ⟨by simp [ih.1], fun i v e => ?_⟩
    cases i with
    | zero => cases e; exact ⟨n, rfl, t, rfl⟩
    | succ i => exact ih.2 i v e

theorem law_rings {L sa : Addr} {hb : Heap} {vs : List Value} {ns : List Int} {m : Str → Option Value} {Q : Flow → Shared → Prop} (a : Ar Z A L) (G : Gd w p loose mg mb hb) (kb : Kp hb s.heap) (hL : hb.get? L = none) (hn : s.heap.Ns L m) (ms : m "script" = some (.ref sa)) (ls : s.heap.IsList sa vs.toArray) (vv : Vals IntV vs ns) (hlen : vs.length ≤ 63)
    (fin : ∀ h' tk m' ga gs rs T, Kp hb h' → h'.Ns L m' → m' "rings" = some (.ref ga) → (∃ t, m' "total" = some (.int T t)) → h'.IsList ga gs.toArray → RingsAt h' gs rs → gs.length = 4 → (∀ pts ∈ rs, Good pts) →
      wpAny (model prog w) A (execs ((bodyAt 82).drop 4) (lenv Z L)) Q (fun _ _ => False) { s with heap := h', toks := tk }) :
    wpAny (model prog w) A (execs (bodyAt 82) (lenv Z L)) Q (fun _ _ => False) s := by
  -- script = script[:63]
  refine wpAny_execs_cons (wpAny_Assign_Name (sub_slice (ldl hn ms (evalPart_none_step (evalPart_some_step (wpAny_Constant_int (evalPart_none_step ?_)))))))
  refine ⟨sa, vs.toArray, none, some 63, none, rfl, ls, by rw [List.size_toArray]; omega, .none, .int _ _, .none, by simp, fun S h₁ k₁ hS lS => ?_⟩
  rw [upto_all hlen] at lS
  have hn₁ : h₁.Ns L m := hn.keeps k₁
  refine stl hn₁ fun h₂ hn₂ hs₂ => ?_
  dsimp only
  have kl₂ : KpL L s.heap h₂ := (KpL.of k₁).trans (.but hs₂)
  have kb₂ : Kp hb h₂ := kp_but kb kl₂ hL
  have nS : S ≠ L := by
    rintro rfl
    obtain ⟨o, ho, _, i, hd⟩ := lS
    obtain ⟨o', es, ep, ho', hd', _⟩ := hn₁
    rw [ho] at ho'; cases ho'; rw [hd] at hd'; cases hd'
  have lS₂ : h₂.IsList S vs.toArray := by
    obtain ⟨o, ho, r⟩ := lS
    exact ⟨o, hs₂.extBut S o nS ho, r⟩
  have u1 : (upd m "script" (.ref S)) "script" = some (.ref S) := if_pos rfl
  generalize (upd m "script" (.ref S)) = m₂ at *
  -- points
  refine wpAny_execs_cons (wpAny_Assign_Name (wpAny_BinOp ?_))
  refine comp_script a.hh hn₂ u1 lS₂ hlen vv fun D₁ h₃ i₃ ys k₃ hD₁ lD₁ pD₁ => ?_
  dsimp only
  have hn₃ := hn₂.keeps k₃
  refine wpAny_List (spliced_more (Tuple_ (spliced_more (EvI.const.use rfl fun t1 i1 => spliced_more (EvI.use (EvI.neg EvI.const) rfl fun t2 i2 => spliced_none (new_tuple (by simp) fun T₁ h₄ k₄ hT₁ hTT₁ => ?_))))))
  refine spliced_more (Tuple_ (spliced_more (EvI.const.use rfl fun t3 i3 => spliced_more (EvI.const.use rfl fun t4 i4 => spliced_none (new_tuple (by simp) fun T₂ h₅ k₅ hT₂ hTT₂ => ?_)))))
  refine spliced_more (Tuple_ (spliced_more (EvI.use (EvI.neg EvI.const) rfl fun t5 i5 => spliced_more (EvI.const.use rfl fun t6 i6 => spliced_none (new_tuple (by simp) fun T₃ h₆ k₆ hT₃ hTT₃ => ?_)))))
  refine spliced_none ⟨by show 3 ≤ sizeLine; decide, ?_⟩
  dsimp only at k₄ k₅ k₆ ⊢
  have k7 : Kp h₆ (h₆.push { cls := .type "list", data := .seq [Value.ref T₁, .ref T₂, .ref T₃].toArray }) := Kp.push _ _
  have k36 : Kp h₃ h₆ := (k₄.trans k₅).trans k₆
  have pt : PtsAt h₆ [Value.ref T₁, .ref T₂, .ref T₃] tailPts :=
    ((PtsAt.one (p := (7, -3)) (tup_keeps hTT₁ (k₅.trans k₆))).append (PtsAt.one (p := (5, 11)) (tup_keeps hTT₂ k₆))).append (PtsAt.one (p := (-9, 2)) hTT₃)
  refine add_ring ⟨ys, list_keeps lD₁ (k36.trans k7), pD₁.keeps (k36.trans k7)⟩ ⟨_, ⟨_, Heap.get?_push_size _ rfl, rfl, 0, rfl⟩, pt.keeps k7⟩ (by rw [List.length_map, ← vv.1]; show vs.length + 3 ≤ 1000; omega) fun P h₈ k₈ rP => ?_
  dsimp only at k₈ ⊢
  have kk₈ : Kp h₂ h₈ := (k₃.trans k36).trans (k7.trans k₈)
  have hn₈ := hn₂.keeps kk₈
  refine stl hn₈ fun h₉ hn₉ hs₉ => ?_
  dsimp only
  have kl₉ : KpL L h₂ h₉ := (KpL.of kk₈).trans (.but hs₉)
  have kb₉ : Kp hb h₉ := kp_but kb₂ kl₉ hL
  have rP₉ : RingAt h₉ P (ns.map ptOf ++ tailPts) := (over_ring (KpL.but hs₉) hn₈ rP).keeps hide_kp
  have lS₉ : h₉.IsList S vs.toArray := list_keeps (over_list (KpL.but hs₉) hn₈ (list_keeps lS₂ kk₈)) hide_kp
  have v1 : (upd m₂ "points" (.ref P)) "script" = some (.ref S) := by walk_at "mget"
  have v2 : (upd m₂ "points" (.ref P)) "points" = some (.ref P) := if_pos rfl
  generalize (upd m₂ "points" (.ref P)) = m₉ at *
  have plen : (ns.map ptOf ++ tailPts).length = vs.length + 3 := by rw [List.length_append, List.length_map, ← vv.1]; rfl
  have psm : ∀ q ∈ ns.map ptOf ++ tailPts, Small 1024 q := by
    intro q hq
    rcases List.mem_append.mp hq with hq | hq
    · obtain ⟨x, _, rfl⟩ := List.mem_map.mp hq
      exact ptOf_small x
    · simp only [tailPts, List.mem_cons, List.not_mem_nil, or_false] at hq
      rcases hq with rfl | rfl | rfl <;> (unfold Small; decide)
  generalize ns.map ptOf ++ tailPts = pts at *
  -- total
  refine wpAny_execs_cons (wpAny_Assign_Name (call_b1 rfl (ldb (G.keeps kb₉) rfl PyProof.Rows.Boot.«sum» ⟨rfl, ldl hn₉ v1 ?_⟩)))
  refine sum_l a.hh lS₉ vv fun h₁₀ i₁₀ tt k₁₀ => ?_
  have hn₁₀ := hn₉.keeps k₁₀
  refine stl hn₁₀ fun h₁₁ hn₁₁ hs₁₁ => ?_
  dsimp only at k₁₀ hs₁₁ ⊢
  have kl₁₁ : KpL L h₉ h₁₁ := (KpL.of k₁₀).trans (.but hs₁₁)
  have kb₁₁ : Kp hb h₁₁ := kp_but kb₉ kl₁₁ hL
  have rP₁₁ : RingAt h₁₁ P pts := (over_ring kl₁₁ hn₉ rP₉).keeps hide_kp
  have w1 : (upd m₉ "total" (.int ns.sum tt)) "points" = some (.ref P) := by walk_at "mget"
  have w2 : (upd m₉ "total" (.int ns.sum tt)) "total" = some (.int ns.sum tt) := if_pos rfl
  generalize (upd m₉ "total" (.int ns.sum tt)) = m₁₁ at *
  -- rings
  have hsz : pts.length ≤ 66 := by omega
  refine wpAny_execs_cons (wpAny_Assign_Name (wpAny_List (spliced_more (ldl hn₁₁ w1 (spliced_more ?_)))))
  refine from_ring (j := 1) hn₁₁ w1 rP₁₁ hsz EvI.const (.inl ⟨rfl, by omega⟩) fun R₂ h₁₂ i₁₂ k₁₂ _ r₂ => spliced_more ?_
  dsimp only at k₁₂ ⊢
  refine from_ring (j := pts.length - 3) (hn₁₁.keeps k₁₂) w1 (rP₁₁.keeps k₁₂) hsz (EvI.neg EvI.const) (.inr ⟨by omega, by omega⟩) fun R₃ h₁₃ i₁₃ k₁₃ _ r₃ => spliced_more (wpAny_BinOp (wpAny_BinOp ?_))
  dsimp only at k₁₃ ⊢
  have k13 := k₁₂.trans k₁₃
  refine from_ring (j := pts.length - 3) (hn₁₁.keeps k13) w1 (rP₁₁.keeps k13) hsz (EvI.neg EvI.const) (.inr ⟨by omega, by omega⟩) fun R₄ h₁₄ i₁₄ k₁₄ _ r₄ => ?_
  dsimp only at k₁₄ ⊢
  have k14 := k13.trans k₁₄
  refine rev_ring (hn₁₁.keeps k14) w1 (rP₁₁.keeps k14) hsz (by omega) fun R₅ h₁₅ i₁₅ qs k₁₅ r₅ lqs qin => ?_
  dsimp only at k₁₅ ⊢
  refine add_ring (r₄.keeps k₁₅) r₅ (by rw [List.length_drop]; omega) fun R₆ h₁₆ k₁₆ r₆ => ?_
  dsimp only at k₁₆ ⊢
  have k16 := (k14.trans k₁₅).trans k₁₆
  refine from_ring (j := pts.length - 1) (hn₁₁.keeps k16) w1 (rP₁₁.keeps k16) hsz (EvI.neg EvI.const) (.inr ⟨by omega, by omega⟩) fun R₇ h₁₇ i₁₇ k₁₇ _ r₇ => ?_
  dsimp only at k₁₇ ⊢
  refine add_ring (r₆.keeps k₁₇) r₇ (by rw [List.length_append, List.length_drop, List.length_drop]; omega) fun R₈ h₁₈ k₁₈ r₈ => ?_
  dsimp only at k₁₈ ⊢
  refine spliced_none ⟨by show 4 ≤ sizeLine; decide, ?_⟩
  have k1618 := k₁₇.trans k₁₈
  have k1318 : Kp h₁₃ h₁₈ := ((k₁₄.trans k₁₅).trans k₁₆).trans k1618
  have k18 : Kp h₁₁ h₁₈ := k16.trans k1618
  have hn₁₈ := hn₁₁.keeps k18
  have rings : RingsAt h₁₈ [Value.ref P, .ref R₂, .ref R₃, .ref R₈] [pts, pts.drop 1, pts.drop (pts.length - 3), pts.drop (pts.length - 3) ++ qs ++ pts.drop (pts.length - 1)] :=
    (((RingsAt.one (rP₁₁.keeps k18)).append (RingsAt.one (r₂.keeps (k₁₃.trans k1318)))).append (RingsAt.one (r₃.keeps k1318))).append (RingsAt.one r₈)
  have k19 : Kp h₁₈ (h₁₈.push { cls := .type "list", data := .seq [Value.ref P, .ref R₂, .ref R₃, .ref R₈].toArray }) := Kp.push _ _
  have lG : (h₁₈.push { cls := .type "list", data := .seq [Value.ref P, .ref R₂, .ref R₃, .ref R₈].toArray }).IsList h₁₈.objs.size [Value.ref P, .ref R₂, .ref R₃, .ref R₈].toArray := ⟨_, Heap.get?_push_size _ rfl, rfl, 0, rfl⟩
  dsimp only
  generalize h₁₈.objs.size = ga at *
  generalize h₁₈.push { cls := .type "list", data := .seq [Value.ref P, .ref R₂, .ref R₃, .ref R₈].toArray } = h₁₉ at *
  have hn₁₉ := hn₁₈.keeps k19
  refine stl hn₁₉ fun h₂₀ hn₂₀ hs₂₀ => ?_
  dsimp only
  have kl₂₀ : KpL L h₁₁ h₂₀ := (KpL.of (k18.trans k19)).trans (.but hs₂₀)
  refine fin h₂₀ _ _ ga _ _ ns.sum (kp_but kb₁₁ kl₂₀ hL) hn₂₀ (if_pos rfl) ⟨tt, by walk_at "mget"⟩ (list_keeps (over_list (KpL.but hs₂₀) hn₁₉ lG) hide_kp) ((over_rings (KpL.but hs₂₀) hn₁₉ (rings.keeps k19)).keeps hide_kp) rfl ?_
  intro r hr
  simp only [List.mem_cons, List.not_mem_nil, or_false] at hr
  rcases hr with rfl | rfl | rfl | rfl
  · exact ⟨by omega, hsz, psm⟩
  · exact ⟨by rw [List.length_drop]; omega, by rw [List.length_drop]; omega, fun q hq => psm q (List.mem_of_mem_drop hq)⟩
  · exact ⟨by rw [List.length_drop]; omega, by rw [List.length_drop]; omega, fun q hq => psm q (List.mem_of_mem_drop hq)⟩
  · refine ⟨by simp only [List.length_append, List.length_drop]; omega, by simp only [List.length_append, List.length_drop]; omega, fun q hq => psm q ?_⟩
    rcases List.mem_append.mp hq with hq | hq
    · rcases List.mem_append.mp hq with hq | hq
      · exact List.mem_of_mem_drop hq
      · exact qin q hq
    · exact List.mem_of_mem_drop hq
end
end Mine
end

section
set_option maxRecDepth 100000
set_option linter.unusedVariables false
namespace Mine
open PySem PySem.Calls PyProof.Rows PySem.W
local macro_rules | `(tactic| walk_at "mget") => `(tactic| (repeat (first | assumption | exact if_pos rfl | refine (if_neg (by decide)).trans ?_)))

section
variable {Z : Addr × Value} {prog : Program} {w : World} {A : Around} {E : Value → Shared → Prop} {s : Shared} {p : Program} {loose : List Str} {mg mb : Str → Option Value}

theorem law_turns {L ga : Addr} {hb : Heap} {gs : List Value} {rs : List (List Pt)} {T : Int} {m : Str → Option Value} (a : Ar Z A L) (G : Gd w p loose mg mb hb) (kb : Kp hb s.heap) (hL : hb.get? L = none) (hn : s.heap.Ns L m) (mr : m "rings" = some (.ref ga)) (mt : ∃ t, m "total" = some (.int T t))
    (lg : s.heap.IsList ga gs.toArray) (rg : RingsAt s.heap gs rs) (hg : gs.length = 4) (good : ∀ pts ∈ rs, Good pts) :
    wpAny (model prog w) A (execs ((bodyAt 82).drop 4) (lenv Z L)) (fun f s' => f = .ret (.bool true) ∧ ∃ h' tk m', s' = { s with heap := h', toks := tk } ∧ Kp hb h' ∧ h'.Ns L m') (fun _ _ => False) s := by
  refine wpAny_execs_cons (wpAny_For (wpAny_BinOp (ldl hn mr ?_)))
  refine comp_rings a.hh hn mr lg (by omega) rg (fun pts hp => (good pts hp).len) fun D h₁ k₁ ys kp₁ hD lD rD => ?_
  have hyl : ys.length = 4 := by rw [rD.1, List.length_map, ← rg.1, hg]
  refine add_l (list_keeps lg kp₁) lD (by omega) fun D₂ h₂ kp₂ hD₂ lD₂ => ?_
  dsimp only at kp₂ ⊢
  have hn₂ : h₂.Ns L m := (hn.keeps kp₁).keeps kp₂
  have rg₂ : RingsAt h₂ (gs ++ ys) (rs ++ rs.map fun pts => pts.map flipPt) := ((rg.keeps kp₁).append rD).keeps kp₂
  have good₂ : ∀ pts ∈ rs ++ rs.map fun pts => pts.map flipPt, Good pts := fun pts hp => by
    rcases List.mem_append.mp hp with hp | hp
    · exact good pts hp
    · obtain ⟨q, hq, rfl⟩ := List.mem_map.mp hp
      exact (good q hq).flip
  have kb₂ : Kp hb h₂ := kb.trans (kp₁.trans kp₂)
  have hx : D₂ < h₂.objs.size := by obtain ⟨o, ho, _⟩ := lD₂; exact Heap.lt_size ho
  refine wpAny_pyIter_list lD₂ ?_
  dsimp only
  have kg : Kp (hideAll h₂ [L]) h₂ := hide_kp
  have kbg : Kp hb (hideAll h₂ [L]) := over_kp (KpL.refl L h₂) kb₂ hL
  have gL : (hideAll h₂ [L]).get? L = none := hideAll_none _ (.head _)
  have rgg : RingsAt (hideAll h₂ [L]) (gs ++ ys) _ := over_rings (KpL.refl L h₂) hn₂ rg₂
  have gI : (hideAll h₂ [L]).get? h₂.objs.size = none := none_of_size kg
  generalize hideAll h₂ [L] = g at *
  have kpush : Kp h₂ (h₂.push { cls := .type "list_iterator", data := .fields #[.ref D₂, .int 0 0] }) := Kp.push _ _
  have it0 : (h₂.push { cls := .type "list_iterator", data := .fields #[.ref D₂, .int 0 0] }).IsListIter h₂.objs.size D₂ 0 := ⟨_, Heap.get?_push_size _ rfl, rfl, rfl⟩
  have hxI : D₂ ≠ h₂.objs.size := Nat.ne_of_lt hx
  have hLI : L ≠ h₂.objs.size := Nat.ne_of_lt hn₂.lt
  have hLx : L ≠ D₂ := by
    rintro rfl
    obtain ⟨o, ho, _, i, hd⟩ := lD₂
    obtain ⟨o', es, ep, ho', hd', _⟩ := hn₂
    rw [ho] at ho'; cases ho'; rw [hd] at hd'; cases hd'
  generalize h₂.objs.size = I at *
  generalize h₂.push { cls := .type "list_iterator", data := .fields #[.ref D₂, .int 0 0] } = h₃ at *
  have W := Walks.list (prog := prog) (w := w) a.hh I D₂ hxI (gs ++ ys).toArray
  have keepg : ∀ {h h' : Heap}, Kp g h → (∀ b o, b ≠ L → b ∉ [I] → h.get? b = some o → h'.get? b = some o) → Kp g h' := fun k1 k2 c o e =>
    k2 c o (fun q => by rw [q, gL] at e; cases e) (fun q => by rw [List.mem_singleton.mp q, gI] at e; cases e) (k1 c o e)
  refine for_loop (env := lenv Z L) (W := W) (J := fun _ m h => Kp g h ∧ ∃ t, m "total" = some (.int T t)) (m := m) ?_ ?_ ?_ ?_ ?_ ?_
  · intro hm
    simp only [List.mem_cons, List.not_mem_nil, or_false] at hm
    rcases hm with q | q
    · exact hLI q
    · exact hLx q
  · intro i v m' h h₄ tk hi hv hj hk hn₄ st₄
    have hv' : (gs ++ ys)[i]? = some v := by simpa using hv
    obtain ⟨ra, pts, rfl, hp, hr⟩ := rgg.2 i v hv'
    have gd := good₂ pts (List.mem_of_getElem? hp)
    obtain ⟨kgh, t, ht⟩ := hj
    have kg₄ : Kp g h₄ := keepg kgh hk
    have kgg : Kp g (hideAll h₄ [L]) := over_kp (KpL.refl L h₄) kg₄ gL
    refine wpAny_mono (ring_turn (g := hideAll h₄ [L]) a G (kbg.trans kgg) (hr.keeps kgg) (hideAll_none _ (.head _)) gd.len gd.pos gd.small (if_pos rfl) ⟨t, (if_neg (by decide)).trans ht⟩ hide_kp hn₄) (fun f s₃ r => ?_) fun _ _ x => x
    obtain ⟨e1, m'', h', tk', e2, hn', ht', k'⟩ := r
    refine ⟨e1, m'', h', tk', e2, hn', ⟨kgg.trans k', ht'⟩, fun b hb' o e => k' b o (over (KpL.refl L h₄) ?_ e)⟩
    simp only [List.mem_cons, List.not_mem_nil, or_false] at hb'
    rcases hb' with rfl | rfl
    · exact Ne.symm hLI
    · exact Ne.symm hLx
  · intro m' h h₄ tk hj hk hn₄
    refine wpAny_execs_cons (wpAny_Return_some (wpAny_Constant_bool ?_))
    exact ⟨rfl, h₄, _, m', rfl, kbg.trans (keepg hj.1 hk), hn₄⟩
  · exact ⟨it0, list_keeps lD₂ kpush⟩
  · exact hn₂.keeps kpush
  · exact ⟨kg.trans kpush, mt⟩

theorem law_walk {L sa : Addr} {hb : Heap} {vs : List Value} {ns : List Int} {m : Str → Option Value} (a : Ar Z A L) (G : Gd w p loose mg mb hb) (kb : Kp hb s.heap) (hL : hb.get? L = none) (hn : s.heap.Ns L m) (ms : m "script" = some (.ref sa)) (ls : s.heap.IsList sa vs.toArray) (vv : Vals IntV vs ns) (hlen : vs.length ≤ 63) :
    wpAny (model prog w) A (execs (bodyAt 82) (lenv Z L)) (fun f s' => f = .ret (.bool true) ∧ ∃ h' tk m', s' = { s with heap := h', toks := tk } ∧ Kp hb h' ∧ h'.Ns L m') (fun _ _ => False) s := by
  refine law_rings a G kb hL hn ms ls vv hlen fun h' tk m' ga gs rs T kb' hn' mr mt lg rg hg good => ?_
  exact law_turns (s := { s with heap := h', toks := tk }) a G kb' hL hn' mr mt lg rg hg good
end
end Mine
end

section
open PySem PySem.W PyProof.Rows
namespace Mine
theorem tabs58 {h : Heap} {L : Addr} {h₁ : Heap} (N : News h L h₁ [(58, tabObj #[])]) : h₁.get? 58 = some (tabObj #[]) := (N _ (.head _)).1

set_option maxRecDepth 100000 in
theorem join_walk {prog : Program} {w : World} {s : Shared} {gh h₁ : Heap} {L fa sa : Addr} {cd : Value} {p : Program} {loose : List Str} {mean : ExcName → Option Value} {mg mb : Str → Option Value} {vs : List Value} {ns : List Int} {m : Str → Option Value}
    (X : (hd.heap_39 w.params).In gh) (T : Top p loose mean mg mb gh) (F : Fr gh L h₁ m) (ms : m "script" = some (.ref sa)) (l : gh.IsList sa vs.toArray) (I : IntsAre vs ns) (hn : ns.length ≤ 63) (h58 : h₁.get? 58 = some (tabObj #[])) (n58 : L ≠ 58)
    (hs : s.heap = h₁) :
    wpAny (model prog w) (callerA.deeper (lenv (fa, cd) L)) (execs (bodyAt 82) (lenv (fa, cd) L)) (fun f s' => f = .ret (.bool true) ∧ ∃ h' tk, s' = { s with heap := h', toks := tk } ∧ (∀ b o, gh.get? b = some o → h'.get? b = some o) ∧ h'.get? 58 = some (tabObj #[])) (fun _ _ => False) s := by
  have hL : gh.get? L = none := Heap.get?_none_of_le F.above
  have kh : Kp (hideAll h₁ [L]) h₁ := hide_kp
  have kg : Kp gh (hideAll h₁ [L]) := over_kp (KpL.refl L h₁) F.keep hL
  have k58 : (hideAll h₁ [L]).get? 58 = some (tabObj #[]) := over (KpL.refl L h₁) (Ne.symm n58) h58
  have G : Gd w p loose mg mb (hideAll h₁ [L]) := Gd.keeps ⟨X, topRead_of T⟩ kg
  have a : Ar (fa, cd) (callerA.deeper (lenv (fa, cd) L)) L := ⟨rfl, by show 1 + claimMargin + 1 + 1 < recursionLimit; decide, by show 4 + 3 + 5 < cLine; decide, rfl⟩
  refine wpAny_mono (law_walk (hb := hideAll h₁ [L]) (vs := vs) (ns := ns) (sa := sa) (m := m) a G (by rw [hs]; exact kh) (hideAll_none _ (.head _)) (by rw [hs]; exact F.ns) ms (by rw [hs]; exact list_keeps l F.keep) (IntsAre.vals I) (by rw [I.length]; exact hn)) (fun f s' x => ?_) fun _ _ x => x
  obtain ⟨e, h', tk, m', es, k, _⟩ := x
  exact ⟨e, h', tk, es, fun b o eb => k b o (kg b o eb), k _ _ k58⟩
end Mine
end

open PySem PySem.W PyProof.Rows
set_option maxRecDepth 100000 in
set_option maxHeartbeats 8000000 in
theorem PySem.Challenge.cw_kn0028_01_holds : PySem.Challenge.rw_kn0028_01.Holds := by
  refine Mine.hd ?_
  k_go0
  all_goals try k_fold
  rename Top topProg _ _ _ _ _ => TT
  rename Frag.In _ _ => XX
  rename Fr _ _ _ _ => FF
  rename News _ _ _ _ => NN
  rename IntsAre _ _ => II
  rename Shared.gens _ = #[] => hgens
  have n58 := Mine.tabs58 NN
  refine wpAny_mono (Mine.join_walk XX TT FF rfl lifted II (by omega) n58 (Nat.ne_of_gt (by assumption)) rfl) (fun f s' x => ?jB) fun _ _ x => x.elim
  case jB =>
    obtain ⟨rfl, h', tk, rfl, kk, k58⟩ := x
    refine ⟨⟨.inl ⟨.bool true, .bool true, [], rfl, fun _ => rfl, .bool true, ?_, fun _ => ⟨List.nodup_nil, fun a h => nomatch h⟩⟩, kk, rfl, hgens⟩, ⟨⟨_, k58⟩, trivial⟩⟩
    kernel_rfl
