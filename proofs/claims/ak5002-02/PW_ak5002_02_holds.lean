import PyProof.Rows.All
import Wide.All
import OpenK.AllK
import Wide.FinOn
import PySem.Challenge.RW_ak5002_02
namespace Mine
open PySem PySem.Float64

theorem log2_lt53 {m : Nat} (h0 : m ≠ 0) (h : m < 2 ^ 53) : m.log2 ≤ 52 := by
  have := (Nat.log2_lt h0).mpr h
  omega

def enc (e m : Nat) : Nat := if m = 0 then 0 else (e + m.log2 - 52) * 2 ^ 52 + m * 2 ^ (52 - m.log2)

theorem enc_q {m : Nat} (h0 : m ≠ 0) (h : m < 2 ^ 53) : 2 ^ 52 ≤ m * 2 ^ (52 - m.log2) ∧ m * 2 ^ (52 - m.log2) < 2 ^ 53 := by
  have hL := log2_lt53 h0 h
  have h1 := Nat.log2_self_le h0
  have h2 := @Nat.lt_log2_self m
  constructor
  · calc 2 ^ 52 = 2 ^ m.log2 * 2 ^ (52 - m.log2) := by rw [← Nat.pow_add]; congr 1; omega
      _ ≤ m * 2 ^ (52 - m.log2) := Nat.mul_le_mul_right _ h1
  · calc m * 2 ^ (52 - m.log2) < 2 ^ (m.log2 + 1) * 2 ^ (52 - m.log2) := Nat.mul_lt_mul_of_pos_right h2 (Nat.two_pow_pos _)
      _ = 2 ^ 53 := by rw [← Nat.pow_add]; congr 1; omega

theorem V_enc {e m : Nat} (he : 52 ≤ e) (h : m < 2 ^ 53) : V (enc e m) = m * 2 ^ e := by
  unfold enc
  split
  · rename_i h0; subst h0; rw [V_zero, Nat.zero_mul]
  · rename_i h0
    have hL := log2_lt53 h0 h
    have hq := enc_q h0 h
    rw [V_at (Nat.le_of_lt hq.2) (.inl hq.1), Nat.mul_assoc, ← Nat.pow_add]
    congr 2
    omega

theorem enc_lt {e m : Nat} (he' : e ≤ 1990) (h : m < 2 ^ 53) : enc e m < infMag := by
  unfold enc infMag
  split
  · decide
  · rename_i h0
    have hL := log2_lt53 h0 h
    have hq := enc_q h0 h
    have : (e + m.log2 - 52) ≤ 1990 := by omega
    have := Nat.mul_le_mul_right (2 ^ 52) this
    omega

theorem V_inj {a b : Nat} (h : V a = V b) : a = b := by
  rcases Nat.lt_trichotomy a b with c | c | c
  · have := V_lt c; omega
  · exact c
  · have := V_lt c; omega

theorem V_lt_iff {a b : Nat} : V a < V b ↔ a < b := by
  constructor
  · intro h
    rcases Nat.lt_trichotomy a b with c | c | c
    · exact c
    · subst c; omega
    · have := V_lt c; omega
  · exact V_lt

theorem V_top : ∃ J, 0 < J ∧ J = 2 ^ 2045 ∧ V (infMag - 1) = (2 ^ 53 - 1) * J := by
  have e : infMag - 1 = 2045 * 2 ^ 52 + (2 ^ 53 - 1) := by unfold infMag; omega
  refine ⟨_, Nat.two_pow_pos _, rfl, ?_⟩
  rw [e]
  exact V_at (k := 2045) (q := 2 ^ 53 - 1) (by omega) (.inl (by omega))

theorem right_lt {r : UInt64} {neg : Bool} {W D t₀ : Nat} (hD : 0 < D) (h : Right r neg W D) (hW : W ≤ D * V t₀) (ht : t₀ < infMag) :
    ∃ t, r = pack neg t ∧ t < infMag ∧ ∀ t', dist W (D * V t) ≤ dist W (D * V t') := by
  obtain ⟨t, hr, hle, hov, hn⟩ := h
  have hlt : t < infMag := by
    refine Nat.lt_of_le_of_ne hle fun e => ?_
    have h1 := hov.mp e
    have h2 : V t₀ ≤ V (infMag - 1) := V_mono (by omega)
    obtain ⟨J, hJ, hJ', hV⟩ := V_top
    rw [hV] at h2
    rw [← hJ'] at h1
    have h3 := Nat.mul_le_mul_left D h2
    have h4 : D * ((2 ^ 54 - 1) * J) ≤ D * (2 * ((2 ^ 53 - 1) * J)) := by
      calc D * ((2 ^ 54 - 1) * J) ≤ 2 * W := h1
        _ ≤ 2 * (D * ((2 ^ 53 - 1) * J)) := by omega
        _ = D * (2 * ((2 ^ 53 - 1) * J)) := by ac_rfl
    have h5 := Nat.le_of_mul_le_mul_left h4 hD
    omega
  exact ⟨t, hr, hlt, fun t' => (hn hlt t').1⟩

theorem dist_zero {a b : Nat} (h : dist a b ≤ 0) : a = b := by unfold dist at h; omega

theorem right_exact {r : UInt64} {neg : Bool} {W D t₀ : Nat} (hD : 0 < D) (h : Right r neg W D) (hW : W = D * V t₀) (ht : t₀ < infMag) : r = pack neg t₀ := by
  obtain ⟨t, hr, _, hn⟩ := right_lt hD h (Nat.le_of_eq hW) ht
  have h1 := hn t₀
  rw [← hW] at h1
  have h2 : dist W W = 0 := by unfold dist; omega
  rw [h2] at h1
  have h3 := dist_zero h1
  rw [hW] at h3
  have h4 := V_inj (Nat.eq_of_mul_eq_mul_left hD h3)
  rw [hr, h4]

/-- the float of k halves -/
@[irreducible] def Hf (k : Int) : UInt64 := pack (decide (k < 0)) (enc 1073 k.natAbs)

theorem Hf_eq (k : Int) : Hf k = pack (decide (k < 0)) (enc 1073 k.natAbs) := by unfold Hf; rfl

theorem Hf_decode {k : Int} (h : k.natAbs < 2 ^ 53) : ∃ m e, decode (Hf k) = .fin (decide (k < 0)) m e ∧ val (Hf k) = k * ((2 ^ 1073 : Nat) : Int) := by
  obtain ⟨m, e, hd, hv⟩ := decode_pack (decide (k < 0)) (enc_lt (e := 1073) (by decide) h)
  rw [← Hf_eq] at hd
  refine ⟨m, e, hd, ?_⟩
  rw [val_eq hd, hv, V_enc (by decide) h, sgn_mul]
  congr 1
  unfold sgn
  by_cases hk : k < 0
  · simp only [hk, decide_true, if_true]; omega
  · simp only [hk, decide_false, Bool.false_eq_true, if_false]; omega

theorem pow2_cast (n : Nat) : ((2 ^ n : Nat) : Int) = (2 : Int) ^ n := by simp
theorem K_pos (n : Nat) : (0 : Int) < ((2 ^ n : Nat) : Int) := Int.ofNat_lt.mpr (Nat.two_pow_pos _)

theorem Hf_zero : Hf 0 = zero false := by rw [Hf_eq]; rfl

theorem natAbs_mulK (k : Int) (n : Nat) : (k * ((2 ^ n : Nat) : Int)).natAbs = k.natAbs * 2 ^ n := by rw [Int.natAbs_mul, Int.natAbs_natCast]
theorem neg_mulK (k : Int) (n : Nat) : decide (k * ((2 ^ n : Nat) : Int) < 0) = decide (k < 0) := by
  apply decide_eq_decide.mpr
  have hp := K_pos n
  generalize ((2 ^ n : Nat) : Int) = K at *
  constructor
  · intro h
    by_cases h2 : k < 0
    · exact h2
    · have := Int.mul_nonneg (show 0 ≤ k by omega) (Int.le_of_lt hp)
      omega
  · intro h; exact Int.mul_neg_of_neg_of_pos h hp

theorem Hf_of_right {r : UInt64} {k : Int} (hk : k.natAbs < 2 ^ 53) (h : Right r (decide (k * ((2 ^ 1073 : Nat) : Int) < 0)) (k * ((2 ^ 1073 : Nat) : Int)).natAbs 1) : r = Hf k := by
  rw [neg_mulK, natAbs_mulK] at h
  rw [Hf_eq]
  exact right_exact (by decide) h (by rw [V_enc (by decide) hk, Nat.one_mul]) (enc_lt (by decide) hk)

theorem Hf_add {a b : Int} (ha : a.natAbs < 2 ^ 53) (hb : b.natAbs < 2 ^ 53) (hc : (a + b).natAbs < 2 ^ 53) : add (Hf a) (Hf b) = Hf (a + b) := by
  obtain ⟨m, e, hd, hv⟩ := Hf_decode ha
  obtain ⟨n, f, hd', hv'⟩ := Hf_decode hb
  have h := add_right hd hd'
  rw [hv, hv', ← Int.add_mul] at h
  by_cases h0 : a + b = 0
  · rw [h.1 (by rw [h0, Int.zero_mul]), h0, Hf_zero]
    congr 1
    have : ¬ (a < 0 ∧ b < 0) := by omega
    simpa using this
  · exact Hf_of_right hc (h.2 (by
      intro hz
      rcases Int.mul_eq_zero.mp hz with q | q
      · exact h0 q
      · have := K_pos 1073; omega))

theorem Hf_sub {a b : Int} (ha : a.natAbs < 2 ^ 53) (hb : b.natAbs < 2 ^ 53) (hc : (a - b).natAbs < 2 ^ 53) : sub (Hf a) (Hf b) = Hf (a - b) := by
  obtain ⟨m, e, hd, hv⟩ := Hf_decode ha
  obtain ⟨n, f, hd', hv'⟩ := Hf_decode hb
  have h := sub_right hd hd'
  rw [hv, hv', ← Int.sub_mul] at h
  by_cases h0 : a - b = 0
  · rw [h.1 (by rw [h0, Int.zero_mul]), h0, Hf_zero]
    congr 1
    have : a = b := by omega
    subst this
    simp
  · exact Hf_of_right hc (h.2 (by
      intro hz
      rcases Int.mul_eq_zero.mp hz with q | q
      · exact h0 q
      · have := K_pos 1073; omega))

theorem Hf_ofInt {n : Int} (h : (2 * n).natAbs < 2 ^ 53) : ofInt n = Hf (2 * n) := by
  have hr := ofInt_right n
  refine Hf_of_right h ?_
  rw [neg_mulK, natAbs_mulK]
  have e1 : decide (2 * n < 0) = decide (n < 0) := decide_eq_decide.mpr (by omega)
  have e2 : (2 * n).natAbs * 2 ^ 1073 = n.natAbs * 2 ^ 1074 := by
    rw [show (2 * n).natAbs = n.natAbs * 2 by omega, Nat.mul_assoc, ← Nat.pow_add_one']
  rw [e1, e2]
  exact hr

theorem Hf_mul {a b : Int} (ha : 0 ≤ a) (hb : 0 ≤ b) (ha' : a.natAbs < 2 ^ 53) (hb' : b.natAbs < 2 ^ 53) {c : Int} (hc : a * b = 2 * c) (hc' : c.natAbs < 2 ^ 53) : mul (Hf a) (Hf b) = Hf c := by
  obtain ⟨m, e, hd, hv⟩ := Hf_decode ha'
  obtain ⟨n, f, hd', hv'⟩ := Hf_decode hb'
  have h := mul_right hd hd'
  rw [hv, hv', natAbs_mulK, natAbs_mulK] at h
  have hc0 : 0 ≤ c := by have := Int.mul_nonneg ha hb; omega
  have s1 : (decide (a < 0) != decide (b < 0)) = decide (c < 0) := by
    rw [decide_eq_false (show ¬ a < 0 by omega), decide_eq_false (show ¬ b < 0 by omega), decide_eq_false (show ¬ c < 0 by omega)]; rfl
  rw [s1] at h
  rw [Hf_eq c]
  refine right_exact (t₀ := enc 1073 c.natAbs) (Nat.two_pow_pos _) h ?_ (enc_lt (by decide) hc')
  rw [V_enc (by decide) hc']
  have h2 : a.natAbs * b.natAbs = c.natAbs * 2 := by
    rw [← Int.natAbs_mul, hc, Int.natAbs_mul, Nat.mul_comm]; rfl
  have h3 : (2 : Nat) ^ 1074 = 2 * 2 ^ 1073 := Nat.pow_succ'
  rw [h3]
  generalize (2 : Nat) ^ 1073 = K
  calc a.natAbs * K * (b.natAbs * K) = (a.natAbs * b.natAbs) * (K * K) := by ac_rfl
    _ = c.natAbs * 2 * (K * K) := by rw [h2]
    _ = 2 * K * (c.natAbs * K) := by ac_rfl

theorem Hf_cmp {a b : Int} (ha : a.natAbs < 2 ^ 53) (hb : b.natAbs < 2 ^ 53) : cmp (Hf a) (Hf b) = some (compare a b) := by
  obtain ⟨m, e, hd, hv⟩ := Hf_decode ha
  obtain ⟨n, f, hd', hv'⟩ := Hf_decode hb
  rw [cmp_right hd hd', hv, hv']
  have hp := K_pos 1073
  generalize ((2 ^ 1073 : Nat) : Int) = K at *
  congr 1
  rcases Int.lt_trichotomy a b with h | h | h
  · rw [Int.compare_eq_lt.mpr h, Int.compare_eq_lt.mpr (Int.mul_lt_mul_of_pos_right h hp)]
  · subst h; simp
  · rw [Int.compare_eq_gt.mpr h, Int.compare_eq_gt.mpr (Int.mul_lt_mul_of_pos_right h hp)]

theorem Hf_cmpInt {a n : Int} (ha : a.natAbs < 2 ^ 53) : cmpInt (Hf a) n = some (compare a (2 * n)) := by
  obtain ⟨m, e, hd, hv⟩ := Hf_decode ha
  rw [cmpInt_right hd, hv]
  have hp := K_pos 1073
  have e1 : n * 2 ^ 1074 = (2 * n) * ((2 ^ 1073 : Nat) : Int) := by
    have : (2 : Int) ^ 1074 = 2 * ((2 ^ 1073 : Nat) : Int) := by
      rw [← pow2_cast, show (2 : Nat) ^ 1074 = 2 * 2 ^ 1073 from Nat.pow_succ', Int.natCast_mul]; rfl
    rw [this]
    generalize ((2 ^ 1073 : Nat) : Int) = K
    rw [← Int.mul_assoc, Int.mul_comm n 2]
  rw [e1]
  generalize ((2 ^ 1073 : Nat) : Int) = K at *
  congr 1
  generalize 2 * n = b
  rcases Int.lt_trichotomy a b with h | h | h
  · rw [Int.compare_eq_lt.mpr h, Int.compare_eq_lt.mpr (Int.mul_lt_mul_of_pos_right h hp)]
  · subst h; simp
  · rw [Int.compare_eq_gt.mpr h, Int.compare_eq_gt.mpr (Int.mul_lt_mul_of_pos_right h hp)]

theorem Hf_finite {k : Int} (h : k.natAbs < 2 ^ 53) : isFinite (Hf k) = true ∧ isNaN (Hf k) = false ∧ isInf (Hf k) = false := by
  obtain ⟨m, e, hd, _⟩ := Hf_decode h
  unfold isFinite isNaN isInf
  rw [hd]
  exact ⟨rfl, rfl, rfl⟩

theorem floor_val {x : UInt64} {neg : Bool} {m : Nat} {e : Int} (hd : decode x = .fin neg m e) : floorOf neg m e = (val x) / ((2 ^ 1074 : Nat) : Int) := by
  have he := decode_ge hd
  rw [val_eq hd, sgn_mul]
  unfold floorOf
  split
  · rename_i h
    have e1 : (e + 1074).toNat = e.toNat + 1074 := by omega
    rw [e1, Nat.pow_add, Int.natCast_mul, ← Int.mul_assoc, Int.mul_ediv_cancel _ (Int.ne_of_gt (K_pos _))]
    simp
  · rename_i h
    have e1 : (1074 : Nat) = (-e).toNat + (e + 1074).toNat := by omega
    rw [e1, Nat.pow_add, Int.natCast_mul]
    have e2 : (((-e).toNat : Int) + ((e + 1074).toNat : Int)) = 1074 := by omega
    have e3 : ((-e).toNat + (e + 1074).toNat) = 1074 := by omega
    rw [Int.fdiv_eq_ediv_of_nonneg _ (by exact_mod_cast Nat.zero_le _)]
    have key : ∀ (s : Int) (p q : Nat), (s * ((2 ^ q : Nat) : Int)) / (((2 ^ p : Nat) : Int) * ((2 ^ q : Nat) : Int)) = s / ((2 ^ p : Nat) : Int) := fun s p q => Int.mul_ediv_mul_of_pos_left _ _ (K_pos q)
    have := key (sgn neg m) (-e).toNat (e + 1074).toNat
    simpa [e3] using this.symm

theorem Hf_floor {k : Int} (h : k.natAbs < 2 ^ 53) : Flt.toInt floorOf (Hf k) = k / 2 := by
  obtain ⟨m, e, hd, hv⟩ := Hf_decode h
  rw [Flt.toInt_fin hd, floor_val hd, hv]
  have h3 : ((2 ^ 1074 : Nat) : Int) = 2 * ((2 ^ 1073 : Nat) : Int) := by
    rw [show (2 : Nat) ^ 1074 = 2 * 2 ^ 1073 from Nat.pow_succ', Int.natCast_mul]; rfl
  rw [h3]
  exact Int.mul_ediv_mul_of_pos_left _ _ (K_pos 1073)

theorem Hf_trunc {k : Int} (h0 : 0 ≤ k) (h : k.natAbs < 2 ^ 53) : Flt.toInt truncOf (Hf k) = k / 2 := by
  obtain ⟨m, e, hd, hv⟩ := Hf_decode h
  rw [← Hf_floor h, Flt.toInt_fin hd, Flt.toInt_fin hd]
  unfold truncOf
  rw [decide_eq_false (show ¬ k < 0 by omega)]
  rfl

/-- floor of a rounded quotient: W / D of the unit 2^-1074 lies in [q, q + 1 - 2^-j] -/
theorem right_floor {r : UInt64} {W D q j : Nat} (hD : 0 < D) (h : Right r false W D) (hlo : D * (q * 2 ^ 1074) ≤ W) (hj : j ≤ 1000) (hq : (q + 1) * 2 ^ j < 2 ^ 53)
    (hhi : W ≤ D * (((q + 1) * 2 ^ j - 1) * 2 ^ (1074 - j))) : isFinite r = true ∧ isNaN r = false ∧ isInf r = false ∧ Flt.toInt floorOf r = (q : Int) := by
  have h1j : 1 ≤ 2 ^ j := Nat.two_pow_pos _
  have hz : ((q + 1) * 2 ^ j - 1) < 2 ^ 53 := by omega
  have hq1 : q + 1 ≤ (q + 1) * 2 ^ j := Nat.le_mul_of_pos_right _ h1j
  have hq53 : q < 2 ^ 53 := by omega
  have Vz := V_enc (e := 1074 - j) (by omega) hz
  have Vq := V_enc (e := 1074) (by decide) hq53
  obtain ⟨t, hr, ht, hn⟩ := right_lt hD h (by rw [Vz]; exact hhi) (enc_lt (by omega) hz)
  have low : V (enc 1074 q) ≤ V t := by
    have h1 := hn (enc 1074 q)
    rw [Vq] at *
    by_cases c : q * 2 ^ 1074 ≤ V t
    · exact c
    · exfalso
      have h2 : D * V t < D * (q * 2 ^ 1074) := Nat.mul_lt_mul_of_pos_left (by omega) hD
      unfold dist at h1
      omega
  have high : V t ≤ V (enc (1074 - j) ((q + 1) * 2 ^ j - 1)) := by
    have h1 := hn (enc (1074 - j) ((q + 1) * 2 ^ j - 1))
    rw [Vz] at *
    by_cases c : V t ≤ ((q + 1) * 2 ^ j - 1) * 2 ^ (1074 - j)
    · exact c
    · exfalso
      have h2 : D * (((q + 1) * 2 ^ j - 1) * 2 ^ (1074 - j)) < D * V t := Nat.mul_lt_mul_of_pos_left (by omega) hD
      unfold dist at h1
      omega
  rw [Vq] at low
  rw [Vz] at high
  obtain ⟨m, e, hd, hv⟩ := decode_pack false ht
  rw [← hr] at hd
  have hval : val r = (V t : Int) := by rw [val_eq hd, hv]; unfold sgn; simp
  refine ⟨?_, ?_, ?_, ?_⟩
  · unfold isFinite; rw [hd]
  · unfold isNaN; rw [hd]
  · unfold isInf; rw [hd]
  rw [Flt.toInt_fin hd, floor_val hd, hval]
  have hsplit : (2 : Nat) ^ 1074 = 2 ^ j * 2 ^ (1074 - j) := by rw [← Nat.pow_add]; congr 1; omega
  have hKpos : 0 < (2 : Nat) ^ 1074 := Nat.two_pow_pos _
  have hlt : V t < (q + 1) * 2 ^ 1074 := by
    refine Nat.lt_of_le_of_lt high ?_
    rw [hsplit, ← Nat.mul_assoc]
    exact Nat.mul_lt_mul_of_pos_right (by have := Nat.le_mul_of_pos_right (q + 1) h1j; omega) (Nat.two_pow_pos _)
  generalize (2 : Nat) ^ 1074 = K at *
  have e1 : V t / K = q := by
    apply Nat.div_eq_of_lt_le
    · exact low
    · exact hlt
  rw [← Int.natCast_ediv, e1]

theorem ii_floor_pos {a b j : Nat} (hb : 0 < b) (hj : j ≤ 1000) (hbj : b ≤ 2 ^ j) (hq : (a / b + 1) * 2 ^ j < 2 ^ 53) :
    isFinite (ofFrac false a b) = true ∧ isNaN (ofFrac false a b) = false ∧ isInf (ofFrac false a b) = false ∧ Flt.toInt floorOf (ofFrac false a b) = ((a / b : Nat) : Int) := by
  have hR : Right (ofFrac false a b) false (a * 2 ^ 1074) b := ofFrac_right hb (by rw [Nat.mul_assoc]) hb
  refine right_floor (j := j) hb hR ?_ hj hq ?_
  · rw [← Nat.mul_assoc]
    exact Nat.mul_le_mul_right _ (Nat.mul_div_le a b)
  · have hsplit : (2 : Nat) ^ 1074 = 2 ^ j * 2 ^ (1074 - j) := by rw [← Nat.pow_add]; congr 1; omega
    rw [hsplit, ← Nat.mul_assoc, ← Nat.mul_assoc]
    refine Nat.mul_le_mul_right _ ?_
    have h1 := Nat.div_add_mod a b
    have h2 := Nat.mod_lt a hb
    generalize a / b = q at *
    generalize 2 ^ j = P at *
    have h3 : a + 1 ≤ b * (q + 1) := by rw [Nat.mul_add]; omega
    have h4 : (a + 1) * P ≤ b * (q + 1) * P := Nat.mul_le_mul_right _ h3
    rw [Nat.mul_sub, Nat.mul_one]
    rw [Nat.add_mul, Nat.one_mul, Nat.mul_assoc] at h4
    omega

theorem Hf_div_floor {a b : Int} (ha : 0 ≤ a) (hb : 0 < b) (ha' : a.natAbs < 2 ^ 53) (hb' : b.natAbs < 2 ^ 53) {j : Nat} (hj : j ≤ 1000) (hbj : b ≤ ((2 ^ j : Nat) : Int)) (hq : (a / b + 1) * ((2 ^ j : Nat) : Int) < 2 ^ 53) :
    isFinite (div (Hf a) (Hf b)) = true ∧ isNaN (div (Hf a) (Hf b)) = false ∧ isInf (div (Hf a) (Hf b)) = false ∧ Flt.toInt floorOf (div (Hf a) (Hf b)) = a / b := by
  obtain ⟨m, e, hd, hv⟩ := Hf_decode ha'
  obtain ⟨n, f, hd', hv'⟩ := Hf_decode hb'
  obtain ⟨a, rfl⟩ := Int.eq_ofNat_of_zero_le ha
  obtain ⟨b, rfl⟩ := Int.eq_ofNat_of_zero_le (Int.le_of_lt hb)
  have hn : n ≠ 0 := by
    intro h0
    subst h0
    have := val_natAbs hd'
    rw [hv', natAbs_mulK, Nat.zero_mul] at this
    rcases Nat.mul_eq_zero.mp this with h | h
    · omega
    · exact absurd h (Nat.ne_of_gt (Nat.two_pow_pos _))
  have hR := div_right hd hd' hn
  rw [decide_eq_false (show ¬ (a : Int) < 0 by omega), decide_eq_false (show ¬ (b : Int) < 0 by omega), hv, hv', natAbs_mulK, natAbs_mulK, Int.natAbs_natCast, Int.natAbs_natCast] at hR
  have hbN : 0 < b := by omega
  have hbj' : b ≤ 2 ^ j := by exact_mod_cast hbj
  have hq' : (a / b + 1) * 2 ^ j < 2 ^ 53 := by exact_mod_cast hq
  have main := right_floor (q := a / b) (j := j) (Nat.mul_pos hbN (Nat.two_pow_pos 1073)) hR ?_ hj hq' ?_
  · exact main
  · have h1 : b * (a / b) ≤ a := Nat.mul_div_le a b
    generalize (2 : Nat) ^ 1073 = K at *
    generalize (2 : Nat) ^ 1074 = L at *
    calc b * K * (a / b * L) = b * (a / b) * (K * L) := by ac_rfl
      _ ≤ a * (K * L) := Nat.mul_le_mul_right _ h1
      _ = a * K * L := by rw [Nat.mul_assoc]
  · have hsplit : (2 : Nat) ^ 1074 = 2 ^ j * 2 ^ (1074 - j) := by rw [← Nat.pow_add]; congr 1; omega
    have h1 := Nat.div_add_mod a b
    have h2 := Nat.mod_lt a hbN
    have key : a * 2 ^ j ≤ b * ((a / b + 1) * 2 ^ j - 1) := by
      generalize a / b = q at *
      generalize 2 ^ j = P at *
      have h3 : a + 1 ≤ b * (q + 1) := by rw [Nat.mul_add]; omega
      have h4 : (a + 1) * P ≤ b * (q + 1) * P := Nat.mul_le_mul_right _ h3
      rw [Nat.mul_sub, Nat.mul_one]
      rw [Nat.add_mul, Nat.one_mul, Nat.mul_assoc] at h4
      omega
    rw [hsplit]
    generalize (2 : Nat) ^ 1073 = K at *
    generalize (2 : Nat) ^ (1074 - j) = L at *
    calc a * K * (2 ^ j * L) = a * 2 ^ j * (K * L) := by ac_rfl
      _ ≤ b * ((a / b + 1) * 2 ^ j - 1) * (K * L) := Nat.mul_le_mul_right _ key
      _ = b * K * (((a / b + 1) * 2 ^ j - 1) * L) := by ac_rfl

theorem Hf_fmod {a b : Int} (ha : 0 ≤ a) (hb : 0 < b) (ha' : (2 * a).natAbs < 2 ^ 53) (hb' : (2 * b).natAbs < 2 ^ 53) : fmod (Hf (2 * a)) (Hf (2 * b)) = Hf (2 * (a % b)) := by
  obtain ⟨m, e, hd, hv⟩ := Hf_decode ha'
  obtain ⟨n, f, hd', hv'⟩ := Hf_decode hb'
  have he := decode_ge hd
  have hf := decode_ge hd'
  have hvm := val_natAbs hd
  have hvn := val_natAbs hd'
  rw [hv, natAbs_mulK] at hvm
  rw [hv', natAbs_mulK] at hvn
  have hn : n ≠ 0 := by
    intro h0
    subst h0
    rw [Nat.zero_mul] at hvn
    rcases Nat.mul_eq_zero.mp hvn with h | h
    · omega
    · exact absurd h (Nat.ne_of_gt (Nat.two_pow_pos _))
  have hmod : (a % b) < b := Int.emod_lt_of_pos _ hb
  have hmod0 : 0 ≤ (a % b) := Int.emod_nonneg _ (by omega)
  have hc : (2 * (a % b)).natAbs < 2 ^ 53 := by omega
  have hfm : fmod (Hf (2 * a)) (Hf (2 * b)) = ofBin false ((m * 2 ^ (e - min e f).toNat) % (n * 2 ^ (f - min e f).toNat)) (min e f) := by
    unfold fmod
    rw [hd, hd']
    simp only
    rw [if_neg (by simpa using hn), decide_eq_false (show ¬ 2 * a < 0 by omega)]
    rfl
  rw [hfm]
  refine Hf_of_right hc ?_
  rw [neg_mulK, natAbs_mulK, decide_eq_false (show ¬ 2 * (a % b) < 0 by omega)]
  have hR := ofBin_right (neg := false) (M := (m * 2 ^ (e - min e f).toNat) % (n * 2 ^ (f - min e f).toNat)) (g := min e f) (by omega)
  have hW : (m * 2 ^ (e - min e f).toNat) % (n * 2 ^ (f - min e f).toNat) * 2 ^ (min e f + 1074).toNat = (2 * (a % b)).natAbs * 2 ^ 1073 := by
    rw [← Nat.mul_mod_mul_right, Nat.mul_assoc, Nat.mul_assoc, ← Nat.pow_add, ← Nat.pow_add]
    have e1 : (e - min e f).toNat + (min e f + 1074).toNat = (e + 1074).toNat := by omega
    have e2 : (f - min e f).toNat + (min e f + 1074).toNat = (f + 1074).toNat := by omega
    rw [e1, e2, ← hvm, ← hvn, Nat.mul_mod_mul_right]
    refine congrArg (· * 2 ^ 1073) ?_
    obtain ⟨a, rfl⟩ := Int.eq_ofNat_of_zero_le ha
    obtain ⟨b, rfl⟩ := Int.eq_ofNat_of_zero_le (Int.le_of_lt hb)
    rw [← Int.natCast_emod]
    have h1 : (2 * (a : Int)).natAbs = 2 * a := by omega
    have h2 : (2 * (b : Int)).natAbs = 2 * b := by omega
    have h3 : (2 * ((a % b : Nat) : Int)).natAbs = 2 * (a % b) := by omega
    rw [h1, h2, h3, Nat.mul_mod_mul_left]
  rw [hW] at hR
  exact hR

theorem Hf_lt {a b : Int} (ha : a.natAbs < 2 ^ 53) (hb : b.natAbs < 2 ^ 53) : lt (Hf a) (Hf b) = decide (a < b) := by
  unfold lt
  rw [Hf_cmp ha hb]
  rcases Int.lt_trichotomy a b with h | h | h
  · rw [Int.compare_eq_lt.mpr h, decide_eq_true h]; rfl
  · subst h; simp
  · rw [Int.compare_eq_gt.mpr h, decide_eq_false (by omega)]; rfl

theorem Hf_isZero {a : Int} (ha : a.natAbs < 2 ^ 53) : isZero (Hf a) = decide (a = 0) := by
  obtain ⟨m, e, hd, hv⟩ := Hf_decode ha
  have hvm := val_natAbs hd
  rw [hv, natAbs_mulK] at hvm
  unfold isZero
  rw [hd]
  have hp := Nat.two_pow_pos 1073
  have hp' := Nat.two_pow_pos (e + 1074).toNat
  generalize (2 : Nat) ^ 1073 = K at *
  generalize (2 : Nat) ^ (e + 1074).toNat = L at *
  cases m with
  | zero =>
    simp only
    rw [Nat.zero_mul] at hvm
    rcases Nat.mul_eq_zero.mp hvm with h | h
    · have : a = 0 := by omega
      simp [this]
    · omega
  | succ m =>
    simp only
    have : a ≠ 0 := by
      intro h
      subst h
      simp only [Int.natAbs_zero, Nat.zero_mul] at hvm
      rcases Nat.mul_eq_zero.mp hvm.symm with h | h <;> omega
    simp [this]

theorem Hf_mod {a b : Int} (ha : 0 ≤ a) (hb : 0 < b) (ha' : (2 * a).natAbs < 2 ^ 53) (hb' : (2 * b).natAbs < 2 ^ 53) : (divmod (Hf (2 * a)) (Hf (2 * b))).2 = Hf (2 * (a % b)) := by
  have hmod : (a % b) < b := Int.emod_lt_of_pos _ hb
  have hmod0 : 0 ≤ (a % b) := Int.emod_nonneg _ (by omega)
  have hc : (2 * (a % b)).natAbs < 2 ^ 53 := by omega
  unfold divmod
  simp only [Hf_fmod ha hb ha' hb']
  rw [Hf_isZero hc, ← Hf_zero, Hf_lt hb' (by decide), Hf_lt hc (by decide), decide_eq_false (show ¬ 2 * b < 0 by omega), decide_eq_false (show ¬ 2 * (a % b) < 0 by omega)]
  by_cases h0 : a % b = 0
  · rw [h0]
    simp only [Int.mul_zero, decide_true, if_true]
    unfold copysign
    rw [(Hf_finite (k := 0) (by decide)).2.1]
    simp only [Bool.false_eq_true, if_false]
    have hs : signBit (Hf (2 * b)) = false := by
      unfold signBit
      rw [Hf_eq, decide_eq_false (show ¬ 2 * b < 0 by omega)]
      have hl := enc_lt (e := 1073) (by decide) hb'
      have hi : infMag = 2047 * 2 ^ 52 := rfl
      rw [pack_toNat false (by omega)]
      simp
      omega
    rw [hs, Hf_eq]
    rfl
  · rw [decide_eq_false (show ¬ 2 * (a % b) = 0 by omega)]
    rfl
end Mine

namespace Mine
open PySem PySem.Float64 PySem.Spec PySem.Calls PySem.W PyProof.Rows
set_option maxRecDepth 100000

theorem lit_epoch : (0x41153d6e00000000 : UInt64) = Hf 695991 := by rw [Hf_eq]; decide +kernel
theorem lit_epoch' : (4689722129631936512 : UInt64) = Hf 695991 := lit_epoch
theorem lit_half : (0x3fe0000000000000 : UInt64) = Hf 1 := by rw [Hf_eq]; decide +kernel
theorem lit_mul : (0x40f80c0000000000 : UInt64) = Hf 196992 := by rw [Hf_eq]; decide +kernel
theorem lit_div : (0x41812785b8000000 : UInt64) = Hf 71950702 := by rw [Hf_eq]; decide +kernel

/-- the float x tells k halves, k within the exact range -/
def FH (x : UInt64) (k : Int) : Prop := x = Hf k ∧ k.natAbs < 2 ^ 53
/-- the float x is finite and its floor is q -/
def FQ (x : UInt64) (q : Int) : Prop := isFinite x = true ∧ isNaN x = false ∧ isInf x = false ∧ Flt.toInt floorOf x = q

theorem fits_of {n : Int} (h : n.natAbs < 2 ^ 53) : n.natAbs < 2 ^ 1023 := Nat.lt_of_lt_of_le h (Nat.pow_le_pow_right (by decide) (by decide))
section
variable {prog : Program} {w : World} {A : Around} {E : Value → Shared → Prop} {s : Shared} {t u : Tok} {Q : Value → Shared → Prop} {x y : UInt64} {k l n : Int}

theorem f_add_fi (hx : x = Hf k) (hk : k.natAbs < 2 ^ 53) (hn : (2 * n).natAbs < 2 ^ 53) (hc : (k + 2 * n).natAbs < 2 ^ 53) (h : Q (.float (Hf (k + 2 * n)) s.toks) { s with toks := s.toks + 1 }) : wpAny (model prog w) A (binaryOp .Add (.float x t) (.int n u)) Q E s := by
  subst hx
  refine add_fi_fits (fits_of (by omega)) ?_
  rw [Hf_ofInt hn, Hf_add hk hn hc]; exact h
theorem f_add_if (hx : x = Hf k) (hk : k.natAbs < 2 ^ 53) (hn : (2 * n).natAbs < 2 ^ 53) (hc : (2 * n + k).natAbs < 2 ^ 53) (h : Q (.float (Hf (2 * n + k)) s.toks) { s with toks := s.toks + 1 }) : wpAny (model prog w) A (binaryOp .Add (.int n u) (.float x t)) Q E s := by
  subst hx
  refine add_if_fits (fits_of (by omega)) ?_
  rw [Hf_ofInt hn, Hf_add hn hk hc]; exact h
theorem f_sub_if (hx : x = Hf k) (hk : k.natAbs < 2 ^ 53) (hn : (2 * n).natAbs < 2 ^ 53) (hc : (2 * n - k).natAbs < 2 ^ 53) (h : Q (.float (Hf (2 * n - k)) s.toks) { s with toks := s.toks + 1 }) : wpAny (model prog w) A (binaryOp .Sub (.int n u) (.float x t)) Q E s := by
  subst hx
  refine sub_if_fits (fits_of (by omega)) ?_
  rw [Hf_ofInt hn, Hf_sub hn hk hc]; exact h
theorem f_iadd_fi (hx : x = Hf k) (hk : k.natAbs < 2 ^ 53) (hn : (2 * n).natAbs < 2 ^ 53) (hc : (k + 2 * n).natAbs < 2 ^ 53) (h : Q (.float (Hf (k + 2 * n)) s.toks) { s with toks := s.toks + 1 }) : wpAny (model prog w) A (inplaceOp .Add (.float x t) (.int n u)) Q E s := by
  subst hx
  refine Flt.iadd_fi_1 (ofInt_fits (fits_of (by omega))) ?_
  rw [Hf_ofInt hn, Hf_add hk hn hc]; exact h
theorem f_sub_ff (hx : x = Hf k) (hy : y = Hf l) (hk : k.natAbs < 2 ^ 53) (hl : l.natAbs < 2 ^ 53) (hc : (k - l).natAbs < 2 ^ 53) (h : Q (.float (Hf (k - l)) s.toks) { s with toks := s.toks + 1 }) : wpAny (model prog w) A (binaryOp .Sub (.float x t) (.float y u)) Q E s := by
  subst hx; subst hy
  refine sub_float ?_
  rw [Hf_sub hk hl hc]; exact h
/-- a whole number times 98496.0 -/
theorem f_mul_ff (hx : x = Hf k) (hy : y = Hf 196992) (h0 : 0 ≤ k) (hk : (k * 98496).natAbs < 2 ^ 53) (h : Q (.float (Hf (k * 98496)) s.toks) { s with toks := s.toks + 1 }) : wpAny (model prog w) A (binaryOp .Mult (.float x t) (.float y u)) Q E s := by
  subst hx; subst hy
  refine mul_float ?_
  rw [Hf_mul h0 (by decide) (by omega) (by decide) (c := k * 98496) (by omega) hk]; exact h
/-- by 35975351.0: what is told of the quotient is its floor -/
theorem f_div_ff (hx : x = Hf k) (hy : y = Hf 71950702) (h0 : 0 ≤ k) (hk : k.natAbs < 2 ^ 53) (hq : (k / 71950702 + 1) * 134217728 < 2 ^ 53) (h : ∀ z, FQ z (k / 71950702) → Q (.float z s.toks) { s with toks := s.toks + 1 }) : wpAny (model prog w) A (binaryOp .Div (.float x t) (.float y u)) Q E s := by
  subst hx; subst hy
  refine AutoFloatOpsIf.truediv ?_
  rw [if_neg (by rw [Hf_isZero (by decide)]; decide)]
  refine h _ ?_
  exact Hf_div_floor (j := 27) h0 (by decide) hk (by decide) (by decide) (by decide) hq
theorem ii_floor {a b : Int} {j : Nat} (ha : 0 ≤ a) (hb : 0 < b) (hj : j ≤ 1000) (hbj : b ≤ ((2 ^ j : Nat) : Int)) (hq : (a / b + 1) * ((2 ^ j : Nat) : Int) < 2 ^ 53) : FQ (ofFrac (decide (a < 0) != decide (b < 0)) a.natAbs b.natAbs) (a / b) := by
  obtain ⟨a, rfl⟩ := Int.eq_ofNat_of_zero_le ha
  obtain ⟨b, rfl⟩ := Int.eq_ofNat_of_zero_le (Int.le_of_lt hb)
  rw [decide_eq_false (show ¬ (a : Int) < 0 by omega), decide_eq_false (show ¬ (b : Int) < 0 by omega), Int.natAbs_natCast, Int.natAbs_natCast]
  exact ii_floor_pos (j := j) (by omega) hj (by exact_mod_cast hbj) (by exact_mod_cast hq)
theorem neg_469 : FQ (ofFrac (decide ((-469 : Int) < 0) != decide ((19 : Int) < 0)) (-469 : Int).natAbs (19 : Int).natAbs) (-469 / 19) := by unfold FQ; decide +kernel
theorem neg_234 : FQ (ofFrac (decide ((-234 : Int) < 0) != decide ((19 : Int) < 0)) (-234 : Int).natAbs (19 : Int).natAbs) (-234 / 19) := by unfold FQ; decide +kernel
theorem neg_331741 : FQ (ofFrac (decide ((-331741 : Int) < 0) != decide ((25920 : Int) < 0)) (-331741 : Int).natAbs (25920 : Int).natAbs) (-331741 / 25920) := by unfold FQ; decide +kernel
theorem neg_166705 : FQ (ofFrac (decide ((-166705 : Int) < 0) != decide ((25920 : Int) < 0)) (-166705 : Int).natAbs (25920 : Int).natAbs) (-166705 / 25920) := by unfold FQ; decide +kernel
theorem f_div_19 (hn : 0 ≤ n ∨ n = -234 ∨ n = -469) (hq : n < 10000000000000) (h : ∀ z, FQ z (n / 19) → Q (.float z s.toks) { s with toks := s.toks + 1 }) : wpAny (model prog w) A (binaryOp .Div (.int n t) (.int 19 u)) Q E s := by
  refine AutoIntOps.truediv_2 (by decide) (Flt.quot_fits (by decide) (fits_of (by omega))) (h _ ?_)
  rcases hn with h0 | rfl | rfl
  · exact ii_floor (j := 5) h0 (by decide) (by decide) (by decide) (by omega)
  · exact neg_234
  · exact neg_469
theorem f_div_25920 (hn : 0 ≤ n ∨ n = -166705 ∨ n = -331741) (hq : n < 100000000000000) (h : ∀ z, FQ z (n / 25920) → Q (.float z s.toks) { s with toks := s.toks + 1 }) : wpAny (model prog w) A (binaryOp .Div (.int n t) (.int 25920 u)) Q E s := by
  refine AutoIntOps.truediv_2 (by decide) (Flt.quot_fits (by decide) (fits_of (by omega))) (h _ ?_)
  rcases hn with h0 | rfl | rfl
  · exact ii_floor (j := 15) h0 (by decide) (by decide) (by decide) (by omega)
  · exact neg_166705
  · exact neg_331741
theorem f_floor_q (hA : A.handled = none) (hx : FQ x n) (h : Q (.int n s.toks) { s with toks := s.toks + 1 }) : wpAny (model prog w) A (call (.builtin "math.floor") [.float x t]) Q E s := by
  obtain ⟨h1, h2, h3, h4⟩ := hx
  refine Flt.call_floor_float hA (fun q => ?_) (fun q => ?_) fun _ => ?_
  · rw [h2] at q; cases q
  · rw [h3] at q; cases q
  · rw [h4]; exact h
theorem f_floor_h (hA : A.handled = none) (hx : x = Hf k) (hk : k.natAbs < 2 ^ 53) (h : Q (.int (k / 2) s.toks) { s with toks := s.toks + 1 }) : wpAny (model prog w) A (call (.builtin "math.floor") [.float x t]) Q E s := by
  subst hx
  exact f_floor_q hA ⟨(Hf_finite hk).1, (Hf_finite hk).2.1, (Hf_finite hk).2.2, Hf_floor hk⟩ h
theorem f_int (hA : A.handled = none) (hx : x = Hf k) (h0 : 0 ≤ k) (hk : k.natAbs < 2 ^ 53) (h : Q (.int (k / 2) s.toks) { s with toks := s.toks + 1 }) : wpAny (model prog w) A (call (.type "int") [.float x t]) Q E s := by
  subst hx
  refine Flt.call_int_float3 hA (fun q => ?_) (fun q => ?_) fun _ => ?_
  · rw [(Hf_finite hk).2.1] at q; cases q
  · rw [(Hf_finite hk).2.2] at q; cases q
  · rw [Hf_trunc h0 hk]; exact h
theorem f_mod_fi (hx : x = Hf (2 * k)) (h0 : 0 ≤ k) (hk : (2 * k).natAbs < 2 ^ 53) (h1 : 0 < n) (hn : (2 * n).natAbs < 2 ^ 53) (h : Q (.float (Hf (2 * (k % n))) s.toks) { s with toks := s.toks + 1 }) : wpAny (model prog w) A (binaryOp .Mod (.float x t) (.int n u)) Q E s := by
  subst hx
  refine AutoFloatOps.mod_fi_2 (ofInt_fits (fits_of (by omega))) (by rw [Hf_ofInt hn, Hf_isZero hn]; simpa using (by omega : ¬ 2 * n = 0)) ?_
  rw [Hf_ofInt hn, Hf_mod h0 h1 hk hn]
  exact h
theorem cmp_lt_ {a b : Int} : ((some (compare a b) : Option Ordering) == some .lt) = decide (a < b) := by
  rcases Int.lt_trichotomy a b with h | h | h
  · rw [Int.compare_eq_lt.mpr h, decide_eq_true h]; rfl
  · subst h; simp
  · rw [Int.compare_eq_gt.mpr h, decide_eq_false (by omega)]; rfl
theorem cmp_gt_ {a b : Int} : ((some (compare a b) : Option Ordering) == some .gt) = decide (b < a) := by
  rcases Int.lt_trichotomy a b with h | h | h
  · rw [Int.compare_eq_lt.mpr h, decide_eq_false (by omega)]; rfl
  · subst h; simp
  · rw [Int.compare_eq_gt.mpr h, decide_eq_true h]; rfl
theorem cmp_eq_ {a b : Int} : ((some (compare a b) : Option Ordering) == some .eq) = decide (a = b) := by
  rcases Int.lt_trichotomy a b with h | h | h
  · rw [Int.compare_eq_lt.mpr h, decide_eq_false (by omega)]; rfl
  · subst h; simp
  · rw [Int.compare_eq_gt.mpr h, decide_eq_false (by omega)]; rfl
theorem f_lt_ff (hx : x = Hf k) (hy : y = Hf l) (hk : k.natAbs < 2 ^ 53) (hl : l.natAbs < 2 ^ 53) (h : Q (.bool (decide (k < l))) s) : wpAny (model prog w) A (compareOp .Lt (.float x t) (.float y u)) Q E s := by
  subst hx; subst hy
  refine AutoFloatOps.lt_0 ?_
  rw [Hf_cmp hk hl, cmp_lt_]; exact h
theorem f_gt_ff (hx : x = Hf k) (hy : y = Hf l) (hk : k.natAbs < 2 ^ 53) (hl : l.natAbs < 2 ^ 53) (h : Q (.bool (decide (l < k))) s) : wpAny (model prog w) A (compareOp .Gt (.float x t) (.float y u)) Q E s := by
  subst hx; subst hy
  refine AutoFloatOps.gt_0 ?_
  rw [Hf_cmp hk hl, cmp_gt_]; exact h
theorem f_ge_ff (hx : x = Hf k) (hy : y = Hf l) (hk : k.natAbs < 2 ^ 53) (hl : l.natAbs < 2 ^ 53) (h : Q (.bool (decide (l ≤ k))) s) : wpAny (model prog w) A (compareOp .GtE (.float x t) (.float y u)) Q E s := by
  subst hx; subst hy
  refine AutoFloatOps.ge_0 ?_
  rw [Hf_cmp hk hl, cmp_gt_, cmp_eq_]
  have e : (decide (l < k) || decide (k = l)) = decide (l ≤ k) := by
    by_cases c : l ≤ k
    · rw [decide_eq_true c]
      simp
      omega
    · rw [decide_eq_false c]
      simp
      omega
  rw [e]; exact h
theorem f_ne_ff (hx : x = Hf k) (hy : y = Hf l) (hk : k.natAbs < 2 ^ 53) (hl : l.natAbs < 2 ^ 53) (h : Q (.bool (!decide (k = l))) s) : wpAny (model prog w) A (compareOp .NotEq (.float x t) (.float y u)) Q E s := by
  subst hx; subst hy
  refine AutoFloatOps.ne_0 ?_
  unfold bne
  rw [Hf_cmp hk hl, cmp_eq_]; exact h
theorem f_ne_fi (hx : x = Hf k) (hk : k.natAbs < 2 ^ 53) (h : Q (.bool (!decide (k = 2 * n))) s) : wpAny (model prog w) A (compareOp .NotEq (.float x t) (.int n u)) Q E s := by
  subst hx
  refine ne_fi ?_
  unfold bne
  rw [Hf_cmpInt hk, cmp_eq_]; exact h
theorem f_eq_fi (hx : x = Hf k) (hk : k.natAbs < 2 ^ 53) (h : Q (.bool (decide (k = 2 * n))) s) : wpAny (model prog w) A (compareOp .Eq (.float x t) (.int n u)) Q E s := by
  subst hx
  refine eq_fi ?_
  rw [Hf_cmpInt hk, cmp_eq_]; exact h
end
end Mine

namespace Mine
open PySem
def mo (y : Int) : Int := (235 * y - 234) / 19
def dr (y : Int) : Int := mo y * 29 + (12084 + 13753 * mo y) / 25920
def d1 (y : Int) : Int := if 3 * (dr y + 1) % 7 < 3 then dr y + 1 else dr y
def d2 (y : Int) : Int := if d1 (y + 1) - d1 y = 356 then 2 else if d1 y - d1 (y - 1) = 382 then 1 else 0
/-- 1 Tishri of the year y is the day 347998 + ny y -/
def ny (y : Int) : Int := d1 y + d2 y
def lp (y : Int) : Bool := decide ((y * 7 + 1) % 19 < 7)

/-- the parts of the moon of 1 Tishri since a Monday's start -/
def pt (y : Int) : Int := 5604 + 765433 * mo y
def lawG (D : Int) : Int := if D % 7 = 2 ∨ D % 7 = 4 ∨ D % 7 = 6 then D + 1 else D
def rule1 (D P : Int) (b : Bool) : Prop := P < 19440 ∧ D % 7 = 1 ∧ 9924 ≤ P ∧ b = false
def rule2 (D P : Int) (b : Bool) : Prop := P < 19440 ∧ D % 7 = 0 ∧ 16789 ≤ P ∧ b = true

theorem lp_iff (y : Int) : (y * 7 + 1) % 19 < 7 ↔ mo (y + 1) = mo y + 13 := by
  unfold mo
  have q : y % 19 = 0 ∨ y % 19 = 1 ∨ y % 19 = 2 ∨ y % 19 = 3 ∨ y % 19 = 4 ∨ y % 19 = 5 ∨ y % 19 = 6 ∨ y % 19 = 7 ∨ y % 19 = 8 ∨ y % 19 = 9 ∨ y % 19 = 10 ∨ y % 19 = 11 ∨ y % 19 = 12 ∨ y % 19 = 13 ∨ y % 19 = 14 ∨ y % 19 = 15 ∨ y % 19 = 16 ∨ y % 19 = 17 ∨ y % 19 = 18 := by omega
  rcases q with q | q | q | q | q | q | q | q | q | q | q | q | q | q | q | q | q | q | q <;> omega
theorem lp_iff' (y : Int) : ¬ (y * 7 + 1) % 19 < 7 ↔ mo (y + 1) = mo y + 12 := by
  unfold mo
  have q : y % 19 = 0 ∨ y % 19 = 1 ∨ y % 19 = 2 ∨ y % 19 = 3 ∨ y % 19 = 4 ∨ y % 19 = 5 ∨ y % 19 = 6 ∨ y % 19 = 7 ∨ y % 19 = 8 ∨ y % 19 = 9 ∨ y % 19 = 10 ∨ y % 19 = 11 ∨ y % 19 = 12 ∨ y % 19 = 13 ∨ y % 19 = 14 ∨ y % 19 = 15 ∨ y % 19 = 16 ∨ y % 19 = 17 ∨ y % 19 = 18 := by omega
  rcases q with q | q | q | q | q | q | q | q | q | q | q | q | q | q | q | q | q | q | q <;> omega
theorem mo_next (y : Int) : (lp y = true ∧ mo (y + 1) = mo y + 13) ∨ (lp y = false ∧ mo (y + 1) = mo y + 12) := by
  unfold lp
  by_cases h : (y * 7 + 1) % 19 < 7
  · left; exact ⟨decide_eq_true h, (lp_iff y).mp h⟩
  · right; exact ⟨decide_eq_false h, (lp_iff' y).mp h⟩
theorem dr_eq (y : Int) : dr y = (pt y + 6480) / 25920 := by unfold dr pt; omega
theorem d1_eq (y : Int) : d1 y = lawG (dr y) := by
  unfold d1 lawG
  have h : (3 * (dr y + 1) % 7 < 3) ↔ (dr y % 7 = 2 ∨ dr y % 7 = 4 ∨ dr y % 7 = 6) := by
    have q : dr y % 7 = 0 ∨ dr y % 7 = 1 ∨ dr y % 7 = 2 ∨ dr y % 7 = 3 ∨ dr y % 7 = 4 ∨ dr y % 7 = 5 ∨ dr y % 7 = 6 := by omega
    rcases q with q | q | q | q | q | q | q <;> omega
  by_cases c : 3 * (dr y + 1) % 7 < 3
  · rw [if_pos c, if_pos (h.mp c)]
  · rw [if_neg c, if_neg (fun q => c (h.mpr q))]
theorem G_bd (D : Int) : lawG D = D ∨ lawG D = D + 1 := by unfold lawG; split <;> simp
theorem next_leap {y : Int} (h : lp y = true) : dr (y + 1) = (pt y + 6480 + 9950629) / 25920 := by
  rcases mo_next y with ⟨_, e⟩ | ⟨e, _⟩
  · rw [dr_eq]; unfold pt; rw [e]; congr 1; omega
  · rw [h] at e; cases e
theorem next_plain {y : Int} (h : lp y = false) : dr (y + 1) = (pt y + 6480 + 9185196) / 25920 := by
  rcases mo_next y with ⟨e, _⟩ | ⟨_, e⟩
  · rw [h] at e; cases e
  · rw [dr_eq]; unfold pt; rw [e]; congr 1; omega

theorem G_of {D : Int} (h : D % 7 = 2 ∨ D % 7 = 4 ∨ D % 7 = 6) : lawG D = D + 1 := by unfold lawG; rw [if_pos h]
theorem G_not {D : Int} (h : D % 7 = 0 ∨ D % 7 = 1 ∨ D % 7 = 3 ∨ D % 7 = 5) : lawG D = D := by unfold lawG; rw [if_neg (by omega)]

theorem gap356 (y : Int) : d1 (y + 1) - d1 y = 356 ↔ rule1 (pt y / 25920) (pt y % 25920) (lp y) := by
  rw [d1_eq, d1_eq]
  unfold rule1
  cases hl : lp y with
  | true =>
    rw [next_leap hl, dr_eq]
    have a := G_bd ((pt y + 6480) / 25920)
    have b := G_bd ((pt y + 6480 + 9950629) / 25920)
    constructor
    · intro h; omega
    · rintro ⟨_, _, _, h⟩; cases h
  | false =>
    rw [next_plain hl, dr_eq]
    generalize pt y = T
    unfold lawG
    constructor
    · intro h
      refine ⟨?_, ?_, ?_, rfl⟩ <;> (revert h; (repeat' split) <;> omega)
    · rintro ⟨h1, h2, h3, _⟩
      (repeat' split) <;> omega
theorem gap382 (y : Int) : d1 y - d1 (y - 1) = 382 ↔ rule2 (pt y / 25920) (pt y % 25920) (lp (y - 1)) := by
  have e : pt y = pt (y - 1 + 1) := by rw [Int.sub_add_cancel]
  have e2 : d1 y = d1 (y - 1 + 1) := by rw [Int.sub_add_cancel]
  rw [e, e2]
  generalize y - 1 = z
  rw [d1_eq, d1_eq]
  unfold rule2
  cases hl : lp z with
  | false =>
    rw [next_plain hl, dr_eq]
    have a := G_bd ((pt z + 6480) / 25920)
    have b := G_bd ((pt z + 6480 + 9185196) / 25920)
    constructor
    · intro h; omega
    · rintro ⟨_, _, _, h⟩; cases h
  | true =>
    have hp : pt (z + 1) = pt z + 9950629 := by
      rcases mo_next z with ⟨_, e⟩ | ⟨e, _⟩
      · unfold pt; rw [e]; omega
      · rw [hl] at e; cases e
    rw [next_leap hl, dr_eq, hp]
    generalize pt z = T
    unfold lawG
    constructor
    · intro h
      refine ⟨?_, ?_, ?_, rfl⟩ <;> (revert h; (repeat' split) <;> omega)
    · rintro ⟨h1, h2, h3, _⟩
      (repeat' split) <;> omega

theorem d2_eq (y : Int) : (rule1 (pt y / 25920) (pt y % 25920) (lp y) ∧ d2 y = 2) ∨ (rule2 (pt y / 25920) (pt y % 25920) (lp (y - 1)) ∧ d2 y = 1) ∨ (¬ rule1 (pt y / 25920) (pt y % 25920) (lp y) ∧ ¬ rule2 (pt y / 25920) (pt y % 25920) (lp (y - 1)) ∧ d2 y = 0) := by
  unfold d2
  by_cases a : d1 (y + 1) - d1 y = 356
  · left; exact ⟨(gap356 y).mp a, by rw [if_pos a]⟩
  · by_cases b : d1 y - d1 (y - 1) = 382
    · right; left; exact ⟨(gap382 y).mp b, by rw [if_neg a, if_pos b]⟩
    · right; right; exact ⟨fun q => a ((gap356 y).mpr q), fun q => b ((gap382 y).mpr q), by rw [if_neg a, if_neg b]⟩

/-- the law's own day -/
theorem ny_of1 {y : Int} (h : rule1 (pt y / 25920) (pt y % 25920) (lp y)) : d2 y = 2 ∧ ny y = pt y / 25920 + 2 := by
  have e : d2 y = 2 := by unfold d2; rw [if_pos ((gap356 y).mpr h)]
  refine ⟨e, ?_⟩
  unfold ny
  rw [e, d1_eq, dr_eq]
  unfold rule1 at h
  have q : (pt y + 6480) / 25920 = pt y / 25920 := by omega
  rw [q, G_not (by omega)]
theorem ny_of2 {y : Int} (h : rule2 (pt y / 25920) (pt y % 25920) (lp (y - 1))) : d2 y = 1 ∧ ny y = pt y / 25920 + 1 := by
  have n1 : ¬ rule1 (pt y / 25920) (pt y % 25920) (lp y) := by
    intro q
    unfold rule1 at q
    unfold rule2 at h
    omega
  have e : d2 y = 1 := by unfold d2; rw [if_neg (fun q => n1 ((gap356 y).mp q)), if_pos ((gap382 y).mpr h)]
  refine ⟨e, ?_⟩
  unfold ny
  rw [e, d1_eq, dr_eq]
  unfold rule2 at h
  have q : (pt y + 6480) / 25920 = pt y / 25920 := by omega
  rw [q, G_not (by omega)]
theorem ny_of0 {y : Int} (h1 : ¬ rule1 (pt y / 25920) (pt y % 25920) (lp y)) (h2 : ¬ rule2 (pt y / 25920) (pt y % 25920) (lp (y - 1))) : d2 y = 0 ∧ ny y = lawG ((pt y + 6480) / 25920) := by
  have e : d2 y = 0 := by unfold d2; rw [if_neg (fun q => h1 ((gap356 y).mp q)), if_neg (fun q => h2 ((gap382 y).mp q))]
  refine ⟨e, ?_⟩
  unfold ny
  rw [e, d1_eq, dr_eq, Int.add_zero]

theorem no_two {y : Int} : ¬ (lp y = true ∧ lp (y + 1) = true) := by
  unfold lp
  rintro ⟨h1, h2⟩
  have h1 := of_decide_eq_true h1
  have h2 := of_decide_eq_true h2
  have q : y % 19 = 0 ∨ y % 19 = 1 ∨ y % 19 = 2 ∨ y % 19 = 3 ∨ y % 19 = 4 ∨ y % 19 = 5 ∨ y % 19 = 6 ∨ y % 19 = 7 ∨ y % 19 = 8 ∨ y % 19 = 9 ∨ y % 19 = 10 ∨ y % 19 = 11 ∨ y % 19 = 12 ∨ y % 19 = 13 ∨ y % 19 = 14 ∨ y % 19 = 15 ∨ y % 19 = 16 ∨ y % 19 = 17 ∨ y % 19 = 18 := by omega
  rcases q with q | q | q | q | q | q | q | q | q | q | q | q | q | q | q | q | q | q | q <;> omega

/-- the rules of two years in a row, as plain arithmetic -/
theorem adj {y : Int} {a : Int} (hp : pt (y + 1) = pt y + a) : ∃ u v, ny y = lawG ((pt y + 6480) / 25920) + u ∧ ny (y + 1) = lawG ((pt y + a + 6480) / 25920) + v ∧
    ((rule1 (pt y / 25920) (pt y % 25920) (lp y) ∧ u = 2) ∨ (rule2 (pt y / 25920) (pt y % 25920) (lp (y - 1)) ∧ u = 1) ∨ (¬ rule1 (pt y / 25920) (pt y % 25920) (lp y) ∧ ¬ rule2 (pt y / 25920) (pt y % 25920) (lp (y - 1)) ∧ u = 0)) ∧
    ((rule1 ((pt y + a) / 25920) ((pt y + a) % 25920) (lp (y + 1)) ∧ v = 2) ∨ (rule2 ((pt y + a) / 25920) ((pt y + a) % 25920) (lp y) ∧ v = 1) ∨ (¬ rule1 ((pt y + a) / 25920) ((pt y + a) % 25920) (lp (y + 1)) ∧ ¬ rule2 ((pt y + a) / 25920) ((pt y + a) % 25920) (lp y) ∧ v = 0)) := by
  have b := d2_eq (y + 1)
  rw [hp, show y + 1 - 1 = y by omega] at b
  refine ⟨d2 y, d2 (y + 1), ?_, ?_, d2_eq y, b⟩
  · unfold ny; rw [d1_eq, dr_eq]
  · unfold ny; rw [d1_eq, dr_eq, hp]

/-- how a year's first day lies to the next one's -/
theorem yd_plain {y : Int} (h : lp y = false) : ny (y + 1) - ny y = 353 ∨ ny (y + 1) - ny y = 354 ∨ ny (y + 1) - ny y = 355 := by
  have hp : pt (y + 1) = pt y + 9185196 := by
    rcases mo_next y with ⟨e, _⟩ | ⟨_, e⟩
    · rw [h] at e; cases e
    · unfold pt; rw [e]; omega
  obtain ⟨u, v, e1, e2, a, b⟩ := adj hp
  rw [e1, e2]
  rw [h] at a b
  generalize pt y = T at *
  generalize lp (y + 1) = l1 at *
  generalize lp (y - 1) = l0 at *
  clear e1 e2 hp h
  unfold rule1 rule2 at *
  unfold lawG
  cases l0 <;> cases l1 <;> simp only [Bool.false_eq_true, reduceCtorEq, and_true, and_false, not_false_eq_true, true_and, false_or, not_and, false_and, or_false] at a b <;> (repeat' split) <;> omega

theorem yd_leap {y : Int} (h : lp y = true) : ny (y + 1) - ny y = 383 ∨ ny (y + 1) - ny y = 384 ∨ ny (y + 1) - ny y = 385 := by
  have hp : pt (y + 1) = pt y + 9950629 := by
    rcases mo_next y with ⟨_, e⟩ | ⟨e, _⟩
    · unfold pt; rw [e]; omega
    · rw [h] at e; cases e
  have h1 : lp (y + 1) = false := by
    cases q : lp (y + 1) with
    | false => rfl
    | true => exact absurd ⟨h, q⟩ no_two
  have h0 : lp (y - 1) = false := by
    cases q : lp (y - 1) with
    | false => rfl
    | true => exact absurd ⟨q, by rw [Int.sub_add_cancel]; exact h⟩ (no_two (y := y - 1))
  obtain ⟨u, v, e1, e2, a, b⟩ := adj hp
  rw [e1, e2]
  rw [h, h0] at a
  rw [h, h1] at b
  generalize pt y = T at *
  clear e1 e2 hp h h0 h1
  unfold rule1 rule2 at *
  unfold lawG
  simp only [Bool.false_eq_true, Bool.true_eq_false, reduceCtorEq, and_true, and_false, not_false_eq_true, true_and, false_or, not_and, false_and, or_false] at a b
  (repeat' split) <;> omega
end Mine

namespace Mine
open PySem
def ym (y : Int) : Int := if lp y then 13 else 12
def yd (y : Int) : Int := ny (y + 1) - ny y
/-- the length of a month -/
def ml (y m : Int) : Int :=
  if m = 2 ∨ m = 4 ∨ m = 6 ∨ m = 10 ∨ m = 13 then 29
  else if m = 12 ∧ lp y = false then 29
  else if m = 8 ∧ yd y % 10 ≠ 5 then 29
  else if m = 9 ∧ yd y % 10 = 3 then 29
  else 30
/-- the days of n months from the month a on -/
def sm (y a : Int) : Nat → Int
  | 0 => 0
  | n + 1 => sm y a n + ml y (a + n)
/-- the days of the year y that lie before the month m -/
def off (y m : Int) : Int := if m < 7 then sm y 7 (ym y + 1 - 7).toNat + sm y 1 (m - 1).toNat else sm y 7 (m - 7).toNat

theorem mo_bd {y : Int} (h0 : -1 ≤ y) (h1 : y ≤ 20000000) : -25 ≤ mo y ∧ mo y ≤ 250000000 := by unfold mo; omega
theorem dr_bd {y : Int} (h0 : -1 ≤ y) (h1 : y ≤ 20000000) : -800 ≤ dr y ∧ dr y ≤ 8000000000 := by
  have := mo_bd h0 h1
  unfold dr; omega
theorem d1_bd {y : Int} (h0 : -1 ≤ y) (h1 : y ≤ 20000000) : -800 ≤ d1 y ∧ d1 y ≤ 8000000001 := by
  have := dr_bd h0 h1
  unfold d1; split <;> omega
theorem d2_bd (y : Int) : 0 ≤ d2 y ∧ d2 y ≤ 2 := by
  unfold d2; split
  · omega
  · split <;> omega
theorem ny_bd {y : Int} (h0 : -1 ≤ y) (h1 : y ≤ 20000000) : -800 ≤ ny y ∧ ny y ≤ 8000000003 := by
  have := d1_bd h0 h1
  have := d2_bd y
  unfold ny; omega
theorem yd_bd {y : Int} (h0 : 0 ≤ y) (h1 : y ≤ 19999998) : 300 ≤ yd y ∧ yd y ≤ 400 := by
  have a := d2_bd y
  have b := d2_bd (y + 1)
  have c : dr (y + 1) - dr y ≤ 390 ∧ 350 ≤ dr (y + 1) - dr y := by
    have : mo (y + 1) - mo y = 12 ∨ mo (y + 1) - mo y = 13 := by unfold mo; omega
    unfold dr
    omega
  have d : ∀ z, dr z ≤ d1 z ∧ d1 z ≤ dr z + 1 := fun z => by unfold d1; split <;> omega
  have d' := d y
  have d'' := d (y + 1)
  unfold yd ny
  omega
theorem ym_bd (y : Int) : ym y = 12 ∨ ym y = 13 := by unfold ym; split <;> simp
theorem ym_6 (y : Int) : 6 ≤ ym y := by have := ym_bd y; omega
theorem ml_bd (y m : Int) : ml y m = 29 ∨ ml y m = 30 := by
  unfold ml
  (repeat' split) <;> simp
theorem sm_bd (y a : Int) : ∀ n, 0 ≤ sm y a n ∧ sm y a n ≤ 30 * n
  | 0 => by simp [sm]
  | n + 1 => by
    have := sm_bd y a n
    have := ml_bd y (a + n)
    unfold sm; omega

theorem ny_lin {y : Int} (h0 : -1 ≤ y) (h1 : y ≤ 20000000) : 365 * y - 1000 ≤ ny y := by
  have b := d2_bd y
  unfold ny
  have : dr y ≤ d1 y := by unfold d1; split <;> omega
  have : 365 * y - 1000 ≤ dr y := by unfold dr mo; omega
  omega
theorem ny_1 : ny 1 = 0 := by decide
theorem ny_0 : ny 0 ≤ 0 := by decide
theorem cnt_le {n : Int} (h : 347998 ≤ n) (h1 : n ≤ 3700000000) : 347998 + ny ((2 * ((2 * n - 1) / 2) + 1 - 695991) * 98496 / 71950702) ≤ n := by
  have e : (2 * n - 1) / 2 = n - 1 := by omega
  rw [e]
  generalize hc : (2 * (n - 1) + 1 - 695991) * 98496 / 71950702 = c
  have h2 := d2_bd c
  have h1' : d1 c ≤ dr c + 1 := by unfold d1; split <;> omega
  have h3 : dr c ≤ (12084 + 765433 * mo c) / 25920 := by unfold dr; omega
  have h4 : mo c = (235 * c - 234) / 19 := rfl
  unfold ny
  omega
theorem off_7 (y : Int) : off y 7 = 0 := by simp [off, sm]
theorem off_s7 (y : Int) {k : Int} (h : 7 ≤ k) : off y (k + 1) = off y k + ml y k := by
  unfold off
  rw [if_neg (by omega), if_neg (by omega)]
  obtain ⟨i, hi⟩ := Int.eq_ofNat_of_zero_le (show 0 ≤ k - 7 by omega)
  have e1 : (k + 1 - 7).toNat = i + 1 := by omega
  have e2 : (k - 7).toNat = i := by omega
  rw [e1, e2]
  show sm y 7 i + ml y (7 + i) = _
  rw [show (7 + (i : Int)) = k by omega]
theorem off_s1 (y : Int) {k : Int} (h : 1 ≤ k) (h' : k < 6) : off y (k + 1) = off y k + ml y k := by
  unfold off
  rw [if_pos (by omega), if_pos (by omega)]
  obtain ⟨i, hi⟩ := Int.eq_ofNat_of_zero_le (show 0 ≤ k - 1 by omega)
  have e1 : (k + 1 - 1).toNat = i + 1 := by omega
  have e2 : (k - 1).toNat = i := by omega
  rw [e1, e2]
  show _ + (sm y 1 i + ml y (1 + i)) = _
  rw [show (1 + (i : Int)) = k by omega, Int.add_assoc]
theorem off_1 (y : Int) : off y (ym y) + ml y (ym y) = off y 1 := by
  have hy := ym_bd y
  rw [← off_s7 y (by omega)]
  unfold off
  rw [if_neg (by omega), if_pos (by omega)]
  simp [sm]
theorem yd_vals {y : Int} (h0 : 1 ≤ y) (h1 : y ≤ 19999000) : (lp y = false ∧ (yd y = 353 ∨ yd y = 354 ∨ yd y = 355)) ∨ (lp y = true ∧ (yd y = 383 ∨ yd y = 384 ∨ yd y = 385)) := by
  cases h : lp y with
  | false => exact .inl ⟨rfl, yd_plain h⟩
  | true => exact .inr ⟨rfl, yd_leap h⟩
theorem off_6 {y : Int} (h0 : 1 ≤ y) (h1 : y ≤ 19999000) : off y 6 + ml y 6 = yd y := by
  have key : off y 6 + ml y 6 = sm y 7 (ym y + 1 - 7).toNat + sm y 1 6 := by
    rw [show (sm y 1 6) = sm y 1 5 + ml y (1 + (5 : Nat)) from rfl]
    unfold off
    rw [if_pos (by decide)]
    have : (6 - 1 : Int).toNat = 5 := rfl
    rw [this, Int.add_assoc]
    rfl
  have s1 : sm y 1 6 = 177 := by
    have e : sm y 1 6 = 0 + ml y (1 + (0 : Nat)) + ml y (1 + (1 : Nat)) + ml y (1 + (2 : Nat)) + ml y (1 + (3 : Nat)) + ml y (1 + (4 : Nat)) + ml y (1 + (5 : Nat)) := rfl
    rw [e]
    simp [ml]
  have s6 : sm y 7 6 = ml y 7 + ml y 8 + ml y 9 + ml y 10 + ml y 11 + ml y 12 := by
    have e : sm y 7 6 = 0 + ml y (7 + (0 : Nat)) + ml y (7 + (1 : Nat)) + ml y (7 + (2 : Nat)) + ml y (7 + (3 : Nat)) + ml y (7 + (4 : Nat)) + ml y (7 + (5 : Nat)) := rfl
    rw [e]
    simp
  have s7 : sm y 7 7 = sm y 7 6 + ml y 13 := rfl
  rw [key, s1]
  rcases yd_vals h0 h1 with ⟨hl, hv⟩ | ⟨hl, hv⟩
  · have e : (ym y + 1 - 7).toNat = 6 := by unfold ym; rw [hl]; rfl
    rw [e, s6]
    rcases hv with hv | hv | hv <;> simp [ml, hl, hv]
  · have e : (ym y + 1 - 7).toNat = 7 := by unfold ym; rw [hl]; rfl
    rw [e, s7, s6]
    rcases hv with hv | hv | hv <;> simp [ml, hl, hv]
end Mine

namespace Mine
open PySem PySem.Spec PySem.Calls PySem.W PyProof.Rows
set_option maxRecDepth 100000

theorem d1_a {y : Int} (h : (3 * ((235 * y - 234) / 19 * 29 + (12084 + 13753 * ((235 * y - 234) / 19)) / 25920 + 1)).fmod 7 < 3) : (235 * y - 234) / 19 * 29 + (12084 + 13753 * ((235 * y - 234) / 19)) / 25920 + 1 = d1 y := by
  rw [Int.fmod_eq_emod_of_nonneg _ (by decide)] at h
  unfold d1 dr mo
  rw [if_pos h]
theorem d1_b {y : Int} (h : ¬ (3 * ((235 * y - 234) / 19 * 29 + (12084 + 13753 * ((235 * y - 234) / 19)) / 25920 + 1)).fmod 7 < 3) : (235 * y - 234) / 19 * 29 + (12084 + 13753 * ((235 * y - 234) / 19)) / 25920 = d1 y := by
  rw [Int.fmod_eq_emod_of_nonneg _ (by decide)] at h
  unfold d1 dr mo
  rw [if_neg h]

theorem ml_t {y m : Int} (h : (([2, 4, 6, 10, 13] : List Int).any fun x => x == m) = true) : 29 = ml y m := by
  unfold ml
  rw [if_pos]
  simp only [List.any_cons, List.any_nil, Bool.or_false, Bool.or_eq_true, beq_iff_eq] at h
  omega
theorem ml_f {y m : Int} (h : (([2, 4, 6, 10, 13] : List Int).any fun x => x == m) = false) : ml y m = if m = 12 ∧ lp y = false then 29 else if m = 8 ∧ yd y % 10 ≠ 5 then 29 else if m = 9 ∧ yd y % 10 = 3 then 29 else 30 := by
  unfold ml
  rw [if_neg]
  simp only [List.any_cons, List.any_nil, Bool.or_false, Bool.or_eq_false_iff, beq_eq_false_iff_ne] at h
  omega

/-- the year that a walk is about -/
structure Yr (y : Int) : Prop where

section
variable {prog : Program} {w : World} {A : Around} {E : Value → Shared → Prop} {s : Shared} {env : Env} {h₀ : Heap} {x : Str} {body : List Stmt} {Q : Flow → Shared → Prop}

def JF (news : List (Addr × Obj)) (x y : Str) (m₀ : Str → Option Value) (k : Int) (m : Str → Option Value) (nx : List (Addr × Obj)) : Prop :=
  nx = news ∧ (∃ t, m y = some (.float (Hf k) t)) ∧ ∀ z, z ≠ x → z ≠ y → m z = m₀ z

theorem endF {news own news' : List (Addr × Obj)} {y : Str} {m₀ m' : Str → Option Value} {k k' : Int} {L : Addr} {h' : Heap} {tk : Nat} {t : Tok} {s₁ : Shared} (F : Fr h₀ L h' m') (N : News h₀ L h' news') (hv : m' y = some (.float (Hf k) t)) (he : k = k')
    (hr : ∀ z, z ≠ x → z ≠ y → m' z = m₀ z) (ho : OwnOff own (news.map (·.1))) (hn : ∀ p ∈ news ++ own, p ∈ news') : InvEndG h₀ L (JF news x y m₀ k') own s₁ { s₁ with heap := h', toks := tk } := by
  subst he
  exact InvEndG.intro F N ⟨rfl, ⟨t, hv⟩, hr⟩ ho (fun p hp => hn p (List.mem_append.mpr (.inl hp))) (fun p hp => hn p (List.mem_append.mpr (.inr hp)))

theorem forRange_F {r : Addr} {a₀ b₀ : Int} {t₀ u₀ v₀ : Tok} {m₀ : Str → Option Value} {news : List (Addr × Obj)} (y : Str) {c₀ : Int} {tc : Tok} (f : Nat → Int)
    (hh : A.handled = none) (hr : IsRange s.heap r a₀ b₀ 1 t₀ u₀ v₀) (hsmall : Builtin.Range.small a₀ b₀ 1 = true) (F : Fr h₀ env.locals s.heap m₀) (N : News h₀ env.locals s.heap news) (hy : m₀ y = some (.float (Hf c₀) tc)) (h0 : f 0 = c₀)
    (turn : ∀ (i : Nat) t ta h tk own, a₀ + (i : Int) < b₀ → OwnOff own (news.map (·.1)) → Fr h₀ env.locals h (fun z => if z = x then some (.int (a₀ + (i : Int)) t) else if z = y then some (.float (Hf (f i)) ta) else m₀ z) → News h₀ env.locals h (news ++ own) →
      wpAny (model prog w) A (execs body env) (InvPostG h₀ env.locals (JF news x y m₀ (f (i + 1))) own { s with heap := h, toks := tk } Q) E { s with heap := h, toks := tk })
    (done : ∀ (u : Str → Option Value) t h tk, Fr h₀ env.locals h (fun z => if z = x then u z else if z = y then some (.float (Hf (f (b₀ - a₀).toNat)) t) else m₀ z) → News h₀ env.locals h news → Q .next { s with heap := h, toks := tk }) :
    wpAny (model prog w) A (pyIter (.ref r)) (fun it s₂ => LoopAtV prog w A h₀ env x body Q E it s₂) E s := by
  have hsz := rangeSize_nat a₀ b₀
  refine wpAny_pyIter_range hr hsmall ?_
  have W : Walks prog w A s.heap.objs.size [s.heap.objs.size] [s.heap.objs.size] (b₀ - a₀).toNat (fun i v => i < (b₀ - a₀).toNat ∧ ∃ t, v = .int (a₀ + i * 1) t)
      (fun i h => IsRangeIter h s.heap.objs.size (a₀ + (i : Nat) * 1) (((b₀ - a₀).toNat : Int) - (i : Nat)) 1) := (Walks.range hh _ a₀ 1 (b₀ - a₀).toNat).bound
  refine kdr_loop (fun i m nx => JF news x y m₀ (f i) m nx) W (fun _ h => h) (fun _ h => h) ?_ ?_ ?_ ?_ (by show IsRangeIter _ _ _ _ _; rw [hsz]; simpa using Heap.get?_push_size _ rfl) (F.push _) (fun p hp => ⟨Heap.get?_push_of_some _ (N p hp).1, (N p hp).2⟩) ⟨rfl, ⟨tc, by rw [h0]; exact hy⟩, fun _ _ _ => rfl⟩ ?_ ?_
  · intro i h hi b hb
    rw [List.mem_singleton.mp hb]
    exact ⟨_, hi⟩
  · intro hm
    exact absurd F.ns.lt ((List.mem_singleton.mp hm) ▸ Nat.lt_irrefl _)
  · intro b hb
    rw [List.mem_singleton.mp hb]
    exact next_is_new F
  · intro p hp hI
    exact absurd (Heap.lt_size (N p hp).1) ((List.mem_singleton.mp hI) ▸ Nat.lt_irrefl _)
  · rintro i v m₁ nx h tk own hi ⟨_, t, rfl⟩ hoff ⟨rfl, ⟨ta, ha⟩, hm⟩ F₁ N₁
    have e1 : a₀ + (i : Int) * 1 = a₀ + (i : Int) := by omega
    rw [e1] at F₁
    have e : (fun z => if z = x then some (Value.int (a₀ + (i : Int)) t) else m₁ z) = fun z => if z = x then some (Value.int (a₀ + (i : Int)) t) else if z = y then some (.float (Hf (f i)) ta) else m₀ z := by
      funext z
      by_cases h1 : z = x
      · simp [h1]
      · simp only [if_neg h1]
        by_cases h2 : z = y
        · subst h2; simp [ha]
        · simp only [if_neg h2]; exact hm z h1 h2
    rw [e] at F₁
    exact turn i t ta h tk own (by omega) hoff F₁ N₁
  · rintro m₁ nx h tk ⟨rfl, ⟨t, ha⟩, hm⟩ F₁ N₁
    refine done m₁ t h tk ?_ N₁
    have e : (fun z => if z = x then m₁ z else if z = y then some (Value.float (Hf (f (b₀ - a₀).toNat)) t) else m₀ z) = m₁ := by
      funext z
      by_cases h1 : z = x
      · simp [h1]
      · simp only [if_neg h1]
        by_cases h2 : z = y
        · subst h2; simp [ha]
        · simp only [if_neg h2]; exact (hm z h1 h2).symm
    rw [e]; exact F₁

/-- «for m in range(a, b): jd += month_days(year, m)» -/
theorem forRange_ml {yr : Int} (hY : Yr yr) {r : Addr} {a₀ b₀ : Int} {t₀ u₀ v₀ : Tok} {m₀ : Str → Option Value} {news : List (Addr × Obj)} (y : Str) {c₀ : Int} {tc : Tok}
    (hh : A.handled = none) (hr : IsRange s.heap r a₀ b₀ 1 t₀ u₀ v₀) (hsmall : Builtin.Range.small a₀ b₀ 1 = true) (F : Fr h₀ env.locals s.heap m₀) (N : News h₀ env.locals s.heap news) (hy : m₀ y = some (.float (Hf c₀) tc))
    (turn : ∀ (i : Nat) t ta h tk own, a₀ + (i : Int) < b₀ → 0 ≤ sm yr a₀ i → sm yr a₀ i ≤ 30 * (i : Int) → sm yr a₀ (i + 1) = sm yr a₀ i + ml yr (a₀ + (i : Int)) → (0 ≤ ml yr (a₀ + (i : Int)) ∧ ml yr (a₀ + (i : Int)) ≤ 30) → OwnOff own (news.map (·.1)) → Fr h₀ env.locals h (fun z => if z = x then some (.int (a₀ + (i : Int)) t) else if z = y then some (.float (Hf (c₀ + 2 * sm yr a₀ i)) ta) else m₀ z) → News h₀ env.locals h (news ++ own) →
      wpAny (model prog w) A (execs body env) (InvPostG h₀ env.locals (JF news x y m₀ (c₀ + 2 * sm yr a₀ (i + 1))) own { s with heap := h, toks := tk } Q) E { s with heap := h, toks := tk })
    (done : ∀ (u : Str → Option Value) t h tk, 0 ≤ sm yr a₀ (b₀ - a₀).toNat → sm yr a₀ (b₀ - a₀).toNat ≤ 30 * ((b₀ - a₀).toNat : Int) → Fr h₀ env.locals h (fun z => if z = x then u z else if z = y then some (.float (Hf (c₀ + 2 * sm yr a₀ (b₀ - a₀).toNat)) t) else m₀ z) → News h₀ env.locals h news → Q .next { s with heap := h, toks := tk }) :
    wpAny (model prog w) A (pyIter (.ref r)) (fun it s₂ => LoopAtV prog w A h₀ env x body Q E it s₂) E s :=
  forRange_F y (fun i => c₀ + 2 * sm yr a₀ i) hh hr hsmall F N hy (by simp [sm]) (fun i t ta h tk own hi ho F' N' => turn i t ta h tk own hi (sm_bd _ _ _).1 (sm_bd _ _ _).2 rfl (by have := ml_bd yr (a₀ + (i : Int)); omega) ho F' N') fun u t h tk F' N' => done u t h tk (sm_bd _ _ _).1 (sm_bd _ _ _).2 F' N'

variable {L : Addr}
def JW (news : List (Addr × Obj)) (x y : Str) (m₀ : Str → Option Value) (δ k : Int) (m : Str → Option Value) (nx : List (Addr × Obj)) : Prop :=
  nx = news ∧ (∃ t, m x = some (.int k t)) ∧ (∃ t, m y = some (.int (k + δ) t)) ∧ ∀ z, z ≠ x → z ≠ y → m z = m₀ z

/-- a turn's end: both names one more -/
def WEnd (h₀ : Heap) (L : Addr) (s : Shared) (news : List (Addr × Obj)) (x y : Str) (m₀ : Str → Option Value) (δ k : Int) (P : Int → Prop) (f : Flow) (s₃ : Shared) : Prop :=
  f = .next ∧ ∃ h' tk m' news', s₃ = { s with heap := h', toks := tk } ∧ Fr h₀ L h' m' ∧ News h₀ L h' news' ∧ (∀ p ∈ news, p ∈ news') ∧ (∃ t, m' x = some (.int (k + 1) t)) ∧ (∃ t, m' y = some (.int (k + 1 + δ) t)) ∧ (∀ z, z ≠ x → z ≠ y → m' z = m₀ z) ∧ P (k + 1)

theorem endW {news news' : List (Addr × Obj)} {x y : Str} {m₀ m' : Str → Option Value} {δ k a b : Int} {P : Int → Prop} {h' : Heap} {tk : Nat} {t u : Tok} (F : Fr h₀ L h' m') (N : News h₀ L h' news') (hn : ∀ p ∈ news, p ∈ news') (hx : m' x = some (.int a t)) (hy : m' y = some (.int b u)) (ha : a = k + 1) (hb : b = k + 1 + δ) (hr : ∀ z, z ≠ x → z ≠ y → m' z = m₀ z) (hP : P (k + 1)) :
    WEnd h₀ L s news x y m₀ δ k P .next { s with heap := h', toks := tk } := by
  subst ha; subst hb
  exact ⟨rfl, h', tk, m', news', rfl, F, N, hn, ⟨t, hx⟩, ⟨u, hy⟩, hr, hP⟩

theorem while_two {test : Expr} {body : List Stmt} {pos : Pos} {m₀ : Str → Option Value} {news : List (Addr × Obj)} (x y : Str) (δ : Int) (P : Int → Prop) (bnd : Int) {k₀ k₁ : Int} {t₁ t₂ : Tok}
    (F : Fr h₀ L s.heap m₀) (N : News h₀ L s.heap news) (hx : m₀ x = some (.int k₀ t₁)) (hy : m₀ y = some (.int k₁ t₂)) (hδ : k₁ = k₀ + δ) (hP : P k₀) (hb : ∀ k, P k → k ≤ bnd)
    (turn : ∀ k t u h tk, P k → Fr h₀ L h (fun z => if z = x then some (.int k t) else if z = y then some (.int (k + δ) u) else m₀ z) → News h₀ L h news →
      wpAny (model prog w) A (isTrue test env (eval test env)) (fun b s₂ =>
        if b = true then wpAny (model prog w) A (execs body env) (WEnd h₀ L s news x y m₀ δ k P) E s₂ else Q .next s₂) E { s with heap := h, toks := tk })
    (hE : PassesOwn (model prog w) A env E := by passes_own) :
    wpAny (model prog w) A (exec (.While test body [] pos) env) Q E s := by
  subst hδ
  refine While_inv (fun n m nx => ∃ k, n = (bnd + 1 - k).toNat ∧ P k ∧ JW news x y m₀ δ k m nx) F N ⟨k₀, rfl, hP, rfl, ⟨t₁, hx⟩, ⟨t₂, hy⟩, fun _ _ _ => rfl⟩ ?_ hE
  rintro n m₁ nx h tk F₁ N₁ ⟨k, rfl, hk, rfl, ⟨t, h1⟩, ⟨u, h2⟩, h3⟩
  have e : (fun z => if z = x then some (Value.int k t) else if z = y then some (Value.int (k + δ) u) else m₀ z) = m₁ := by
    funext z
    by_cases c1 : z = x
    · subst c1; simp [h1]
    · simp only [if_neg c1]
      by_cases c2 : z = y
      · subst c2; simp [h2]
      · simp only [if_neg c2]; exact (h3 z c1 c2).symm
  refine wpAny_mono (turn k t u h tk hk (by rw [e]; exact F₁) N₁) (fun b s₂ p => ?_) fun _ _ x => x
  cases b with
  | false => simpa using p
  | true =>
    simp only [if_true] at p ⊢
    refine wpAny_mono p (fun f s₃ q => ?_) fun _ _ x => x
    obtain ⟨hf, h', tk', m', news', rfl, F', N', hn, ⟨t', hx'⟩, ⟨u', hy'⟩, hr, hP'⟩ := q
    subst hf
    have b1 := hb _ hk
    exact WhileStep.intro F' (fun p hp => N' p (hn p hp)) (n' := (bnd + 1 - (k + 1)).toNat) (by omega) ⟨k + 1, rfl, hP', rfl, ⟨t', hx'⟩, ⟨u', hy'⟩, hr⟩

/-- the day that a walk is about -/
structure Day (n : Int) : Prop where

theorem off_bd (y : Int) {k : Int} (h : 1 ≤ k) (h' : k ≤ 13) : 0 ≤ off y k ∧ off y k ≤ 1000 := by
  have hy := ym_bd y
  unfold off
  split
  · have := sm_bd y 7 (ym y + 1 - 7).toNat
    have := sm_bd y 1 (k - 1).toNat
    omega
  · have := sm_bd y 7 (k - 7).toNat
    omega
/-- the first loop of from_jd: years upward -/
theorem while_year {n : Int} (hD : Day n) {test : Expr} {body : List Stmt} {pos : Pos} {m₀ : Str → Option Value} {news : List (Addr × Obj)} (x y : Str) {k₀ k₁ : Int} {t₁ t₂ : Tok}
    (F : Fr h₀ L s.heap m₀) (N : News h₀ L s.heap news) (hx : m₀ x = some (.int k₀ t₁)) (hy : m₀ y = some (.int k₁ t₂)) (hδ : k₁ = k₀ + 1) (h0 : 0 ≤ k₁) (h1 : k₁ ≤ 11000000) (hn : 347998 ≤ n) (hn' : n ≤ 3700000000) (hB : 347998 + ny k₁ ≤ n)
    (turn : ∀ Y t u h tk, -1 ≤ Y → Y ≤ 19998000 → (347998 + ny (Y + 1) ≤ n → Y ≤ 19997000) → (n < 347998 + ny (Y + 1) → 1 ≤ Y ∧ 347998 + ny Y ≤ n) → (-800 ≤ ny (Y + 1) ∧ ny (Y + 1) ≤ 8000000003) → (-800 ≤ ny Y ∧ ny Y ≤ 8000000003) → (0 ≤ off Y 1 ∧ off Y 1 ≤ 1000) → Fr h₀ L h (fun z => if z = x then some (.int Y t) else if z = y then some (.int (Y + 1) u) else m₀ z) → News h₀ L h news →
      wpAny (model prog w) A (isTrue test env (eval test env)) (fun b s₂ =>
        if b = true then wpAny (model prog w) A (execs body env) (WEnd h₀ L s news x y m₀ 1 Y (fun Y => -1 ≤ Y ∧ Y ≤ 19998000 ∧ (Y = k₀ ∨ 347998 + ny Y ≤ n))) E s₂ else Q .next s₂) E { s with heap := h, toks := tk })
    (hE : PassesOwn (model prog w) A env E := by passes_own) :
    wpAny (model prog w) A (exec (.While test body [] pos) env) Q E s := by
  subst hδ
  refine while_two x y 1 (fun Y => -1 ≤ Y ∧ Y ≤ 19998000 ∧ (Y = k₀ ∨ 347998 + ny Y ≤ n)) 19998000 F N hx hy rfl ⟨by omega, by omega, .inl rfl⟩ (fun k hk => hk.2.1) (fun Y t u h tk hk F' N' => turn Y t u h tk (by omega) hk.2.1 (fun q => ?_) (fun q => ?_) (ny_bd (by omega) (by omega)) (ny_bd (by omega) (by omega)) (off_bd Y (by decide) (by decide)) F' N') hE
  · have := ny_lin (y := Y + 1) (by omega) (by omega)
    omega
  · have h2 : 347998 + ny Y ≤ n := by
      rcases hk.2.2 with h | h
      · subst h; omega
      · exact h
    refine ⟨?_, h2⟩
    rcases Int.lt_or_le Y 1 with h | h
    · exfalso
      have : Y = 0 ∨ Y = -1 := by omega
      rcases this with h' | h'
      · rw [h', show (0 + 1 : Int) = 1 from rfl, ny_1] at q; omega
      · have := ny_0
        rw [h', show (-1 + 1 : Int) = 0 from rfl] at q; omega
    · exact h

/-- the second loop of from_jd: months upward, to the last one e at most -/
theorem while_month {n Y e tot : Int} (hD : Day n) {test : Expr} {body : List Stmt} {pos : Pos} {m₀ : Str → Option Value} {news : List (Addr × Obj)} (x y : Str) {k₀ k₁ : Int} {t₁ t₂ : Tok}
    (F : Fr h₀ L s.heap m₀) (N : News h₀ L s.heap news) (hx : m₀ x = some (.int k₀ t₁)) (hy : m₀ y = some (.int k₁ t₂)) (hδ : k₁ = k₀ + 0) (hk₀ : k₀ ≤ e) (hP : 347998 + ny Y + off Y k₀ ≤ n) (hT : n < 347998 + ny Y + tot) (hs : ∀ k, k₀ ≤ k → k < e → off Y (k + 1) = off Y k + ml Y k) (he : off Y e + ml Y e = tot)
    (turn : ∀ k t u h tk, k₀ ≤ k → k ≤ e → 347998 + ny Y + off Y k ≤ n → (347998 + ny Y + off Y k + ml Y k ≤ n → k + 1 ≤ e ∧ 347998 + ny Y + off Y (k + 1) ≤ n) → (29 ≤ ml Y k ∧ ml Y k ≤ 30) → (0 ≤ off Y k ∧ off Y k ≤ 1000) → Fr h₀ L h (fun z => if z = x then some (.int k t) else if z = y then some (.int k u) else m₀ z) → News h₀ L h news →
      wpAny (model prog w) A (isTrue test env (eval test env)) (fun b s₂ =>
        if b = true then wpAny (model prog w) A (execs body env) (WEnd h₀ L s news x y m₀ 0 k (fun k => k₀ ≤ k ∧ k ≤ e ∧ 347998 + ny Y + off Y k ≤ n)) E s₂ else Q .next s₂) E { s with heap := h, toks := tk })
    (hb : ∀ k, k₀ ≤ k → k ≤ e → 0 ≤ off Y k ∧ off Y k ≤ 1000)
    (hE : PassesOwn (model prog w) A env E := by passes_own) :
    wpAny (model prog w) A (exec (.While test body [] pos) env) Q E s := by
  refine while_two x y 0 (fun k => k₀ ≤ k ∧ k ≤ e ∧ 347998 + ny Y + off Y k ≤ n) e F N hx hy hδ ⟨Int.le_refl _, hk₀, hP⟩ (fun k hk => hk.2.1) (fun k t u h tk hk F' N' => turn k t u h tk hk.1 hk.2.1 hk.2.2 (fun q => ?_) (by have := ml_bd Y k; omega) (hb k hk.1 hk.2.1) (by rw [Int.add_zero] at F'; exact F') N') hE
  have : k ≠ e := by intro h; subst h; omega
  have := hs k hk.1 (by omega)
  omega
theorem while_month7 {n Y : Int} (hD : Day n) {test : Expr} {body : List Stmt} {pos : Pos} {m₀ : Str → Option Value} {news : List (Addr × Obj)} (x y : Str) {t₁ t₂ t₃ : Tok}
    (F : Fr h₀ L s.heap m₀) (N : News h₀ L s.heap news) (hx : m₀ x = some (.int 7 t₁)) (hy : m₀ y = some (.int 7 t₂)) (hY : m₀ (Str.ofString "year") = some (.int Y t₃)) (hP : 347998 + ny Y ≤ n) (hT : n < 347998 + ny Y + off Y 1)
    (turn : ∀ k t u h tk, 7 ≤ k → k ≤ ym Y → (ym Y = 12 ∨ ym Y = 13) → 347998 + ny Y + off Y k ≤ n → (347998 + ny Y + off Y k + ml Y k ≤ n → k + 1 ≤ ym Y ∧ 347998 + ny Y + off Y (k + 1) ≤ n) → (29 ≤ ml Y k ∧ ml Y k ≤ 30) → (0 ≤ off Y k ∧ off Y k ≤ 1000) → Fr h₀ L h (fun z => if z = x then some (.int k t) else if z = y then some (.int k u) else m₀ z) → News h₀ L h news →
      wpAny (model prog w) A (isTrue test env (eval test env)) (fun b s₂ =>
        if b = true then wpAny (model prog w) A (execs body env) (WEnd h₀ L s news x y m₀ 0 k (fun k => 7 ≤ k ∧ k ≤ ym Y ∧ 347998 + ny Y + off Y k ≤ n)) E s₂ else Q .next s₂) E { s with heap := h, toks := tk })
    (hE : PassesOwn (model prog w) A env E := by passes_own) :
    wpAny (model prog w) A (exec (.While test body [] pos) env) Q E s := by
  have hy' := ym_bd Y
  exact while_month hD x y F N hx hy rfl (by omega) (by rw [off_7]; omega) hT (fun k h _ => off_s7 Y h) (off_1 Y) (fun k t u h tk h1 h2 => turn k t u h tk h1 h2 hy') (fun k h1 h2 => off_bd Y (by omega) (by omega)) hE
theorem while_month1 {n Y : Int} (hD : Day n) {test : Expr} {body : List Stmt} {pos : Pos} {m₀ : Str → Option Value} {news : List (Addr × Obj)} (x y : Str) {t₁ t₂ t₃ : Tok}
    (F : Fr h₀ L s.heap m₀) (N : News h₀ L s.heap news) (hx : m₀ x = some (.int 1 t₁)) (hy : m₀ y = some (.int 1 t₂)) (hY : m₀ (Str.ofString "year") = some (.int Y t₃)) (h1 : 1 ≤ Y) (h2 : Y ≤ 19999000) (hP : 347998 + ny Y + off Y 1 ≤ n) (hT : n < 347998 + ny (Y + 1))
    (turn : ∀ k t u h tk, 1 ≤ k → k ≤ 6 → 347998 + ny Y + off Y k ≤ n → (347998 + ny Y + off Y k + ml Y k ≤ n → k + 1 ≤ 6 ∧ 347998 + ny Y + off Y (k + 1) ≤ n) → (29 ≤ ml Y k ∧ ml Y k ≤ 30) → (0 ≤ off Y k ∧ off Y k ≤ 1000) → Fr h₀ L h (fun z => if z = x then some (.int k t) else if z = y then some (.int k u) else m₀ z) → News h₀ L h news →
      wpAny (model prog w) A (isTrue test env (eval test env)) (fun b s₂ =>
        if b = true then wpAny (model prog w) A (execs body env) (WEnd h₀ L s news x y m₀ 0 k (fun k => 1 ≤ k ∧ k ≤ 6 ∧ 347998 + ny Y + off Y k ≤ n)) E s₂ else Q .next s₂) E { s with heap := h, toks := tk })
    (hE : PassesOwn (model prog w) A env E := by passes_own) :
    wpAny (model prog w) A (exec (.While test body [] pos) env) Q E s := by
  have h6 := off_6 h1 h2
  have e : yd Y = ny (Y + 1) - ny Y := rfl
  exact while_month hD x y F N hx hy rfl (by omega) hP (by rw [← h6] at e; omega) (fun k h h' => off_s1 Y h h') rfl turn (fun k h1 h2 => off_bd Y (by omega) (by omega)) hE
end

/-- the year Y, its month k and day d are the day n -/
def DateOf (n Y k d : Int) : Prop := 1 ≤ Y ∧ Y ≤ 10200000 ∧ 347998 + ny Y ≤ n ∧ n < 347998 + ny (Y + 1) ∧ 1 ≤ k ∧ k ≤ ym Y ∧ d = n - 347998 - ny Y - off Y k + 1 ∧ 1 ≤ d ∧ d ≤ ml Y k
theorem date_of {n Y k : Int} (hn : n ≤ 3700000000) (h1 : Y ≤ 19998000) (h3 : n < 347998 + ny (Y + 1) → 1 ≤ Y ∧ 347998 + ny Y ≤ n) (a : ¬2 * (347996 + ny (Y + 1) + 1) + 1 ≤ 2 * ((2 * n - 1) / 2) + 1)
    (hk : 1 ≤ k) (hk' : k ≤ ym Y) (h2 : 347998 + ny Y + off Y k ≤ n) (b : ¬2 * (347996 + ny Y + ml Y k + off Y k) + 1 < 2 * ((2 * n - 1) / 2) + 1) : DateOf n Y k ((2 * ((2 * n - 1) / 2) + 1 - (2 * (347996 + ny Y + 1 + off Y k) + 1)) / 2 + 1) := by
  have c := h3 (by omega)
  have := ny_lin (y := Y) (by omega) (by omega)
  unfold DateOf
  refine ⟨c.1, by omega, c.2, by omega, hk, hk', by omega, by omega, by omega⟩
def tupN (vs : List Value) : Obj := { cls := .type "tuple", data := .seq vs.toArray }
abbrev RetD (h₀ : Heap) (L : Addr) (m : Str → Option Value) (news : List (Addr × Obj)) (s : Shared) (Q : Value → Shared → Prop) (n : Int) : Prop :=
  ∀ (Y k d : Int) (t u v : Tok) (a : Addr) (h' : Heap) (tk' : Nat), DateOf n Y k d → Fr h₀ L h' m → News h₀ L h' ((a, { cls := .type "tuple", data := .seq #[.int Y t, .int k u, .int d v] }) :: news) → (∀ p ∈ news, p.1 < a) → Q (.ref a) { s with heap := h', toks := tk' }
theorem retD {h₀ h' : Heap} {L : Addr} {m : Str → Option Value} {news : List (Addr × Obj)} {s : Shared} {Q : Value → Shared → Prop} {tk' : Nat} {n Y k d : Int} {t u v : Tok} {a : Addr} (hret : RetD h₀ L m news s Q n) (F : Fr h₀ L h' m) (N : News h₀ L h' ((a, { cls := .type "tuple", data := .seq #[.int Y t, .int k u, .int d v] }) :: news)) (l : ∀ p ∈ news, p.1 < a) (D : DateOf n Y k d) : Q (.ref a) { s with heap := h', toks := tk' } :=
  hret Y k d t u v a h' tk' D F N l

theorem lt_succ_all {news : List (Addr × Obj)} {L' : Addr} (h : ∀ p ∈ news, p.1 < L') : ∀ p ∈ news, p.1 < L' + 1 := fun p hp => Nat.lt_succ_of_lt (h p hp)
section
variable {M : Model} {A : Around} {E : Value → Shared → Prop} {s : Shared} {h₀ : Heap} {L a : Addr} {m : Str → Option Value} {cn : Str} {cs : Scope} {ccd : Value} {cl : List (Str × Addr)}
  {x : Str} {v : Value} {Q : Unit → Shared → Prop} {news news₀ : List (Addr × Obj)} {c : Addr} {o : Obj} {v₀ : Option Value}
/-- a cell's store that lets the rest of what was made go -/
theorem storeCell1 (F : Fr h₀ L s.heap m) (N : News h₀ L s.heap news) (hc : cl.lookup x = some c) (hm : (c, o) ∈ news) (hd : o.data = .cell v₀) (hs : ∀ p ∈ news₀, p ∈ news) (hl : ∀ p ∈ news₀, p.1 < c)
    (h : ∀ h' o', Fr h₀ L h' m → News h₀ L h' ((c, o') :: news₀) → o'.data = .cell (some v) → Q () { s with heap := h' })
    (hk : cs.kind = .function := by rfl) (hx : (envX cn cs L a ccd cl).kindOf x = some .cell := by rfl) : wpAny M A (storeName (envX cn cs L a ccd cl) x v) Q E s :=
  storeX_C (news := (c, o) :: news₀) (g := fun o' => (c, o') :: news₀) F (fun p hp => by
    rcases List.mem_cons.mp hp with rfl | hp
    · exact N _ hm
    · exact N _ (hs p hp)) hc (UpdF.head fun p hp => Nat.ne_of_lt (hl p hp)) hd h hk hx
end

theorem long_eq (y : Int) : (([3, 6, 8, 11, 14, 17, 19] : List Int).any fun x => x == (y - 1).fmod 19 + 1) = lp y := by
  rw [Int.fmod_eq_emod_of_nonneg _ (by decide)]
  unfold lp
  rw [Bool.eq_iff_iff]
  simp only [List.any_cons, List.any_nil, Bool.or_false, Bool.or_eq_true, beq_iff_eq, decide_eq_true_eq]
  have h : y % 19 = 0 ∨ y % 19 = 1 ∨ y % 19 = 2 ∨ y % 19 = 3 ∨ y % 19 = 4 ∨ y % 19 = 5 ∨ y % 19 = 6 ∨ y % 19 = 7 ∨ y % 19 = 8 ∨ y % 19 = 9 ∨ y % 19 = 10 ∨ y % 19 = 11 ∨ y % 19 = 12 ∨ y % 19 = 13 ∨ y % 19 = 14 ∨ y % 19 = 15 ∨ y % 19 = 16 ∨ y % 19 = 17 ∨ y % 19 = 18 := by omega
  rcases h with h | h | h | h | h | h | h | h | h | h | h | h | h | h | h | h | h | h | h <;> omega
end Mine

namespace Mine
open PySem PySem.Spec PySem.Calls PySem.W PyProof.Rows
set_option maxRecDepth 100000
/-- all that stood still stands -/
def Keeps (h h' : Heap) : Prop := ∀ b o, h.get? b = some o → h'.get? b = some o
theorem Keeps.trans {h h' h'' : Heap} (a : Keeps h h') (b : ∀ c o, h'.get? c = some o → h''.get? c = some o) : Keeps h h'' := fun c o e => b c o (a c o e)

section
variable {prog : Program} {w : World} {A₀ A : Around} {s : Shared} {K : Frag} {base h₀ : Heap} {outer : List Env} {L : Addr} {m mg mb : Str → Option Value} {env : Env} {p : Program} {loose : List Str} {mean : ExcName → Option Value}
  {R : Result → Shared → Prop} {name qual : Str} {params : Arguments} {body : List Stmt} {scope : Scope} {dV kV doc pm cdv ct oc : Value} {an od : Option Addr} {osl : Array (Option Value)} {f : Addr} {args : Args} {binds : List (Str × Value)}

theorem code_def0 (B : Below A₀ base outer h₀) (F : Fr h₀ L s.heap m) (X₀ : K.In h₀) (T : Top p loose mean mg mb h₀) (hA : A.frames = some (env :: outer)) (hf : env.frame = some L) (hke : env.scope.kind = .function)
    (ho : K.lookup f = some ⟨oc, od, .func (fnOf name qual params body scope dV kV doc pm an cdv ct), osl⟩) (hcd : codeIn K cdv qual = true) (hroom : A.depth < recursionLimit)
    (hbind : BindsTo s (fnOf name qual params body scope dV kV doc pm an cdv ct) args binds) (hloc : ∀ y ∈ binds, scope.names.lookup y.1 = some .local)
    (h : ∀ g L' h₁, Keeps s.heap g → Fr h₀ L g m → Fr g L' h₁ (fun y => binds.reverse.lookup y) → News g L' h₁ [] → Below A base (env :: outer) g → K.In g → Top p loose mean mg mb g →
      wpAny (model prog w) (A.deeper (envOf qual scope L' f cdv)) (execs body (envOf qual scope L' f cdv))
        (fun fl s' => LeaveK h₀ L m g R (match fl with | .ret v => v | _ => .none) s')
        (fun e s' => wpAny (model prog w) (A.deeper (envOf qual scope L' f cdv)) (leaving (envOf qual scope L' f cdv) e) (fun _ s'' => R (.error e) s'') (fun e' s'' => R (.error e') s'') s')
        { s with heap := h₁, toks := s.toks + binds.length })
    (hco : scope.isCoroutine = false) (hgen : scope.isGenerator = false) (hk : scope.kind = .function)
    (hcell : ∀ x ∈ scope.names, x.2 ≠ .cell) : codeAny (model prog w) A (.call (.ref f) args) R s := by
  obtain ⟨FG, BG, st, lv⟩ := groundX (R := R) (news := []) B F (fun _ hp => nomatch hp) hA hf hke
  refine codeAny_call_def (fd := fnOf name qual params body scope dV kV doc pm an cdv ct) (body := body) (binds := binds) hroom ((X₀.keeps F.keep) _ _ ho) rfl (T.nolimit.keeps F.keep) (codeRec_of (X₀.keeps F.keep) hcd) rfl hbind hcell hloc (fun h₁ hns hk₁ => ?_) hco hgen hk
  exact wpAny_mono (h s.heap s.heap.objs.size h₁ (fun _ _ e => e) FG ⟨hns, fun b o e => hk₁ b o e, Nat.le_refl _⟩ (fun _ hp => nomatch hp) BG (X₀.keeps st) (T.keeps st)) (fun fl s' hl => lv _ _ hl) fun _ _ y => y

theorem code_defC0 (B : Below A₀ base outer h₀) (F : Fr h₀ L s.heap m) (X₀ : K.In h₀) (T : Top p loose mean mg mb h₀) (hA : A.frames = some (env :: outer)) (hf : env.frame = some L) (hke : env.scope.kind = .function)
    (ho : K.lookup f = some ⟨oc, od, .func (fnOf name qual params body scope dV kV doc pm an cdv ct), osl⟩) (hcd : codeIn K cdv qual = true) (hroom : A.depth < recursionLimit)
    (hbind : BindsTo s (fnOf name qual params body scope dV kV doc pm an cdv ct) args binds) (hkind : (binds.all fun y => scope.names.lookup y.1 == some .local || scope.names.lookup y.1 == some .cell) = true)
    (hnd : ((cellsFrom 0 scope.names []).map (·.1)).Nodup)
    (h : ∀ g L' h₁ tk cells, Keeps s.heap g → Fr h₀ L g m → Fr g L' h₁ (bindL (envOfC qual scope L' f cdv).kindOf binds fun _ => none) → News g L' h₁ cells →
      CellsAre (bindC (envOfC qual scope L' f cdv).kindOf binds fun _ => none) (cellsFrom (L' + 1) scope.names []) cells → Below A base (env :: outer) g → K.In g → Top p loose mean mg mb g →
      wpAny (model prog w) (A.deeper (envOfC qual scope L' f cdv)) (execs body (envOfC qual scope L' f cdv))
        (fun fl s' => LeaveK h₀ L m g R (match fl with | .ret v => v | _ => .none) s')
        (fun e s' => wpAny (model prog w) (A.deeper (envOfC qual scope L' f cdv)) (leaving (envOfC qual scope L' f cdv) e) (fun _ s'' => R (.error e) s'') (fun e' s'' => R (.error e') s'') s')
        { s with heap := h₁, toks := tk })
    (hco : scope.isCoroutine = false) (hgen : scope.isGenerator = false) (hk : scope.kind = .function) : codeAny (model prog w) A (.call (.ref f) args) R s := by
  obtain ⟨FG, BG, st, lv⟩ := groundX (R := R) (news := []) B F (fun _ hp => nomatch hp) hA hf hke
  refine codeAny_call_function hroom ((X₀.keeps F.keep) _ _ ho) rfl hco hgen rfl (codeRec_of (X₀.keeps F.keep) hcd) (hbind _ _ _ _ ?_)
  refine wpAny_newFunctionEnv_cells hk (kindsX hkind _) fun env' he s' x => ?_
  subst he
  refine ⟨(T.nolimit.keeps F.keep).keeps x.toInCall.keep, codeAny_func ?_⟩
  obtain ⟨h₁, tk, rfl, _⟩ := x.done
  have hk₁ := x.toInCall.keep
  obtain ⟨cells, NC, Y⟩ := Cl.news (h₀ := s.heap) (Nat.le_refl _) fun n c hm => ⟨x.cell n c (lookup_of_mem_nodup (cellsFrom_names scope.names 0 (s.heap.objs.size + 1) [] [] rfl ▸ hnd) hm), x.above n c hm⟩
  exact wpAny_mono (h s.heap s.heap.objs.size h₁ tk cells (fun _ _ e => e) FG ⟨x.toInCall.ns, fun b o e => hk₁ b o e, Nat.le_refl _⟩ NC Y BG (X₀.keeps st) (T.keeps st)) (fun fl s' hl => lv _ _ hl) fun _ _ y => y
end

section
variable {h₀ h' g : Heap} {L : Addr} {m : Str → Option Value} {news objs : List (Addr × Obj)} {s : Shared} {Q : Value → Shared → Prop} {t : Tok} {tk' : Nat}
theorem news_keep {h : Heap} (N : News h₀ L h news) (k : Keeps h h') : News h₀ L h' news := fun p hp => ⟨k _ _ (N p hp).1, (N p hp).2⟩
theorem news_both {h : Heap} (N : News h₀ L h news) (k : Keeps h h') (M : News h₀ L h' objs) : News h₀ L h' (objs ++ news) := fun p hp => (List.mem_append.mp hp).elim (M p) (news_keep N k p)
theorem retI0 {x y : Int} (hret : CbRet h₀ L m news s Q (fun t => .int x t)) (N : News h₀ L s.heap news) (F : Fr h₀ L h' m) (k : Keeps s.heap h') (e : y = x) : Q (.int y t) { s with heap := h', toks := tk' } := by
  subst e
  exact hret t h' tk' F (news_keep N k)
theorem retB0 {x y : Bool} (hret : CbRet h₀ L m news s Q (fun _ => .bool x)) (N : News h₀ L s.heap news) (F : Fr h₀ L h' m) (k : Keeps s.heap h') (e : y = x) : Q (.bool y) { s with heap := h', toks := tk' } := by
  subst e
  exact hret 0 h' tk' F (news_keep N k)
end

abbrev longs : List Int := [3, 6, 8, 11, 14, 17, 19]
/-- the long years among the first p of a round -/
def cntL (p : Int) : Int := ((longs.filter fun k => decide (k ≤ p)).length : Int)
structure Past (p : Int) : Prop where
theorem longs_size {vs : List Value} (hi : IntsAre vs longs) : vs.toArray.size ≤ sizeLine := by
  rw [List.size_toArray, hi.length, sizeLine_eq]; decide
theorem foldl_filter (p : Int) : ∀ (ns l : List Int), ns.foldl (fun l k => if k ≤ p then l ++ [k] else l) l = l ++ ns.filter fun k => decide (k ≤ p)
  | [], l => by simp
  | k :: ns, l => by
    rw [List.foldl_cons, foldl_filter p ns]
    by_cases h : k ≤ p
    · simp [h]
    · simp [h]
section
variable {prog : Program} {w : World} {A : Around} {h₀ : Heap} {L : Addr} {m : Str → Option Value} {env : Env} {ct elt : Expr} {x : Str} {scope : Scope} {cl : List (Str × Addr)} {s : Shared} {S : List (Addr × Obj) → Prop} {Fin : List Value → List (Addr × Obj) → Prop} {news : List (Addr × Obj)}
/-- «[one for one in _law_long_years() if one <= past]» -/
theorem kci_past {p : Int} (_hP : Past p) {vs : List Value} (hi : IntsAre vs longs)
    (turn : ∀ k t I oI C oC D m₂ ys l h tk (E' : Value → Shared → Prop), IntsAre ys l → LCg.NsObj oC m₂ → m₂ x = some (.int k t) → Fr h₀ L h m → News h₀ L h ((I, oI) :: (C, oC) :: (D, LCg.lst ys) :: news) → LCg.Off3 I C D news → ((@Ne Nat I C) ∧ (@Ne Nat I D) ∧ (@Ne Nat C D)) →
      wpAny (model prog w) A (isTrue ct (compEnvC scope cl C env) (eval ct (compEnvC scope cl C env))) (fun b s' => if b = true then wpAny (model prog w) A (eval elt (compEnvC scope cl C env)) (LCg.CompEnd h₀ L m { s with heap := h, toks := tk } I oI C oC D (LCg.lst ys) S (fun y news' => KCiEl news l (if k ≤ p then l ++ [k] else l) y news')) E' s'
        else LCg.CompEnd h₀ L m { s with heap := h, toks := tk } I oI C oC D (LCg.lst ys) S (fun _ news' => KCiNo news l (if k ≤ p then l ++ [k] else l) news') Value.none s') E' { s with heap := h, toks := tk })
    (fin : ∀ ys : List Value, (ys.length : Int) = cntL p → ys.length ≤ 7 → Fin ys news) : LCt.CompRestT prog w A h₀ L m env ct elt x scope cl s S (fun i v => vs.toArray[i]? = some v) Fin vs.toArray.size 0 [] news := by
  refine kci_list (fun l k => if k ≤ p then l ++ [k] else l) hi (fun k t I oI C oC D m₂ ys l h tk E' _ h1 h2 h3 h4 h5 h6 h7 _ => turn k t I oI C oC D m₂ ys l h tk E' h1 h2 h3 h4 h5 h6 h7) (fun ys hy hl => fin ys ?_ ?_) (fun l k => ?_)
  · rw [hy.length, foldl_filter, List.nil_append]; rfl
  · rw [List.size_toArray, hi.length] at hl; exact hl
  · show (if k ≤ p then l ++ [k] else l).length ≤ l.length + 1
    split <;> simp
end
abbrev RetL (h₀ : Heap) (L : Addr) (m : Str → Option Value) (news : List (Addr × Obj)) (s : Shared) (Q : Value → Shared → Prop) : Prop :=
  ∀ (vs : List Value) (a : Addr) (h' : Heap) (tk' : Nat), IntsAre vs longs → Fr h₀ L h' m → News h₀ L h' ((a, listOf vs.toArray 0) :: news) → (∀ p ∈ news, p.1 < a) → Q (.ref a) { s with heap := h', toks := tk' }
theorem retL {h₀ h' : Heap} {L : Addr} {m : Str → Option Value} {news : List (Addr × Obj)} {s : Shared} {Q : Value → Shared → Prop} {tk' : Nat} {vs : List Value} {a : Addr} (hret : RetL h₀ L m news s Q) (F : Fr h₀ L h' m) (N : News h₀ L h' ((a, listOf vs.toArray 0) :: news)) (l : ∀ p ∈ news, p.1 < a) (hi : IntsAre vs longs) : Q (.ref a) { s with heap := h', toks := tk' } :=
  hret vs a h' tk' hi F N l

theorem len_ys {prog : Program} {w : World} {A : Around} {E : Value → Shared → Prop} {s : Shared} {h₀ : Heap} {L : Addr} {news : List (Addr × Obj)} {l : Addr} {ys : List Value} {p : Int} {Q : Value → Shared → Prop} (N : News h₀ L s.heap news) (hm : (l, LCg.lst ys) ∈ news) (hc : (ys.length : Int) = cntL p) (h7 : ys.length ≤ 7)
    (h : Q (.int (cntL p) (s.toks + 1)) { s with toks := s.toks + 1 + 1 }) : wpAny (model prog w) A (call (.builtin "len") [.ref l]) Q E s :=
  len_list (items := ys.toArray) ⟨_, (N _ hm).1, rfl, _, rfl⟩ (by rw [List.size_toArray]; omega) (by rw [List.size_toArray, hc]; exact h)

def lawH (D : Int) : Int := if (([2, 4, 6] : List Int).any fun x => x == D.fmod 7) = true then D + 1 else D
def lawD (D P : Int) (b0 b1 : Bool) : Int :=
  if 18 * 1080 ≤ P then D + 1 else if D.fmod 7 = 1 ∧ 9 * 1080 + 204 ≤ P ∧ b0 = false then D + 1 else if D.fmod 7 = 0 ∧ 15 * 1080 + 589 ≤ P ∧ b1 = true then D + 1 else D
theorem lawH_eq (D : Int) : lawH D = lawG D := by
  unfold lawH lawG
  rw [Int.fmod_eq_emod_of_nonneg _ (by decide)]
  have h : ((([2, 4, 6] : List Int).any fun x => x == D % 7) = true) ↔ (D % 7 = 2 ∨ D % 7 = 4 ∨ D % 7 = 6) := by
    simp only [List.any_cons, List.any_nil, Bool.or_false, Bool.or_eq_true, beq_iff_eq]
    omega
  by_cases c : D % 7 = 2 ∨ D % 7 = 4 ∨ D % 7 = 6
  · rw [if_pos c, if_pos (h.mpr c)]
  · rw [if_neg c, if_neg (fun q => c (h.mp q))]
theorem lawD_pt {y : Int} : lawG (lawD (pt y / 25920) (pt y % 25920) (lp y) (lp (y - 1))) = ny y := by
  unfold lawD
  rw [Int.fmod_eq_emod_of_nonneg _ (by decide)]
  by_cases c : 18 * 1080 ≤ pt y % 25920
  · rw [if_pos c]
    have h1 : ¬ rule1 (pt y / 25920) (pt y % 25920) (lp y) := fun q => by have := q.1; omega
    have h2 : ¬ rule2 (pt y / 25920) (pt y % 25920) (lp (y - 1)) := fun q => by have := q.1; omega
    rw [(ny_of0 h1 h2).2]
    congr 1
    omega
  · rw [if_neg c]
    by_cases r1 : rule1 (pt y / 25920) (pt y % 25920) (lp y)
    · rw [(ny_of1 r1).2, if_pos ⟨r1.2.1, r1.2.2.1, r1.2.2.2⟩]
      have := r1.2.1
      rw [G_of (by omega)]
      omega
    · by_cases r2 : rule2 (pt y / 25920) (pt y % 25920) (lp (y - 1))
      · rw [(ny_of2 r2).2, if_neg (fun q => r1 ⟨by omega, q.1, by have := q.2.1; omega, q.2.2⟩), if_pos ⟨r2.2.1, r2.2.2.1, r2.2.2.2⟩]
        have := r2.2.1
        rw [G_not (by omega)]
      · rw [(ny_of0 r1 r2).2, if_neg (fun q => r1 ⟨by omega, q.1, by have := q.2.1; omega, q.2.2⟩), if_neg (fun q => r2 ⟨by omega, q.1, by have := q.2.1; omega, q.2.2⟩)]
        congr 1
        omega
theorem cnt_0 : cntL 0 = 0 := by decide
theorem cnt_1 : cntL 1 = 0 := by decide
theorem cnt_2 : cntL 2 = 0 := by decide
theorem cnt_3 : cntL 3 = 1 := by decide
theorem cnt_4 : cntL 4 = 1 := by decide
theorem cnt_5 : cntL 5 = 1 := by decide
theorem cnt_6 : cntL 6 = 2 := by decide
theorem cnt_7 : cntL 7 = 2 := by decide
theorem cnt_8 : cntL 8 = 3 := by decide
theorem cnt_9 : cntL 9 = 3 := by decide
theorem cnt_10 : cntL 10 = 3 := by decide
theorem cnt_11 : cntL 11 = 4 := by decide
theorem cnt_12 : cntL 12 = 4 := by decide
theorem cnt_13 : cntL 13 = 4 := by decide
theorem cnt_14 : cntL 14 = 5 := by decide
theorem cnt_15 : cntL 15 = 5 := by decide
theorem cnt_16 : cntL 16 = 5 := by decide
theorem cnt_17 : cntL 17 = 6 := by decide
theorem cnt_18 : cntL 18 = 6 := by decide
theorem totX (y : Int) : 5 * 1080 + 204 + (235 * (y - 1).fdiv 19 + 12 * (y - 1).fmod 19 + cntL ((y - 1).fmod 19)) * (29 * 25920 + 12 * 1080 + 793) = pt y := by
  rw [Int.fmod_eq_emod_of_nonneg _ (by decide), Int.fdiv_eq_ediv_of_nonneg _ (by decide)]
  have key : 235 * ((y - 1) / 19) + 12 * ((y - 1) % 19) + cntL ((y - 1) % 19) = mo y := by
    have h0 : 0 ≤ (y - 1) % 19 := Int.emod_nonneg _ (by decide)
    have h1 : (y - 1) % 19 < 19 := Int.emod_lt_of_pos _ (by decide)
    have hq : (y - 1) = 19 * ((y - 1) / 19) + (y - 1) % 19 := (Int.mul_ediv_add_emod _ _).symm
    generalize (y - 1) / 19 = q at *
    generalize (y - 1) % 19 = r at *
    have hy : y = 19 * q + r + 1 := by omega
    unfold mo
    subst hy
    have c : r = 0 ∨ r = 1 ∨ r = 2 ∨ r = 3 ∨ r = 4 ∨ r = 5 ∨ r = 6 ∨ r = 7 ∨ r = 8 ∨ r = 9 ∨ r = 10 ∨ r = 11 ∨ r = 12 ∨ r = 13 ∨ r = 14 ∨ r = 15 ∨ r = 16 ∨ r = 17 ∨ r = 18 := by omega
    rcases c with rfl | rfl | rfl | rfl | rfl | rfl | rfl | rfl | rfl | rfl | rfl | rfl | rfl | rfl | rfl | rfl | rfl | rfl | rfl <;> simp only [cnt_0, cnt_1, cnt_2, cnt_3, cnt_4, cnt_5, cnt_6, cnt_7, cnt_8, cnt_9, cnt_10, cnt_11, cnt_12, cnt_13, cnt_14, cnt_15, cnt_16, cnt_17, cnt_18] <;> omega
  rw [key]
  unfold pt
  omega
theorem lawF_ny (y : Int) : lawH (lawD ((5 * 1080 + 204 + (235 * (y - 1).fdiv 19 + 12 * (y - 1).fmod 19 + cntL ((y - 1).fmod 19)) * (29 * 25920 + 12 * 1080 + 793)).fdiv 25920) ((5 * 1080 + 204 + (235 * (y - 1).fdiv 19 + 12 * (y - 1).fmod 19 + cntL ((y - 1).fmod 19)) * (29 * 25920 + 12 * 1080 + 793)).fmod 25920) (lp y) (lp (y - 1))) = ny y := by
  rw [totX, lawH_eq, Int.fmod_eq_emod_of_nonneg _ (by decide), Int.fdiv_eq_ediv_of_nonneg _ (by decide)]
  exact lawD_pt
theorem any_abs {f : Int → Bool} (h1 : (([2, 4, 6] : List Int).any f) = true) (h2 : (([2, 4, 6] : List Int).any f) = false) : False := by rw [h1] at h2; cases h2
end Mine

namespace Mine
open PySem PySem.Spec PySem.Calls PySem.W PyProof.Rows
set_option maxRecDepth 100000

abbrev tup2 (a b : Int) (t u : Tok) : Obj := { cls := .type "tuple", data := .seq #[.int a t, .int b u] }
/-- the values are made pairs of these ints -/
inductive PairsIn (news : List (Addr × Obj)) : List Value → List (Int × Int) → Prop
  | nil : PairsIn news [] []
  | cons {a : Addr} {t u : Tok} {x y : Int} {vs : List Value} {ps : List (Int × Int)} : (a, tup2 x y t u) ∈ news → PairsIn news vs ps → PairsIn news (.ref a :: vs) ((x, y) :: ps)
theorem PairsIn.mono {news news' : List (Addr × Obj)} (h : ∀ p ∈ news, p ∈ news') : ∀ {vs : List Value} {ps : List (Int × Int)}, PairsIn news vs ps → PairsIn news' vs ps
  | _, _, .nil => .nil
  | _, _, .cons m r => .cons (h _ m) (r.mono h)
theorem PairsIn.length {news : List (Addr × Obj)} : ∀ {vs : List Value} {ps : List (Int × Int)}, PairsIn news vs ps → vs.length = ps.length
  | _, _, .nil => rfl
  | _, _, .cons _ r => by simp [r.length]
theorem PairsIn.get {news : List (Addr × Obj)} : ∀ {vs : List Value} {ps : List (Int × Int)} (_ : PairsIn news vs ps) {i : Nat} {v : Value}, vs[i]? = some v → ∃ a t u x y, v = .ref a ∧ (a, tup2 x y t u) ∈ news ∧ ps[i]? = some (x, y)
  | _, _, .nil, i, v, h => by simp at h
  | _, _, .cons (a := a) (t := t) (u := u) (x := x) (y := y) m r, 0, v, h => by
    have : v = .ref a := by simpa using h.symm
    exact ⟨a, t, u, x, y, this, m, rfl⟩
  | _, _, .cons m r, i + 1, v, h => by
    obtain ⟨a, t, u, x, y, e, m', g⟩ := r.get (i := i) (v := v) (by simpa using h)
    exact ⟨a, t, u, x, y, e, m', by simpa using g⟩

section
variable {prog : Program} {w : World} {A : Around} {E : Value → Shared → Prop} {s : Shared} {h₀ : Heap} {L : Addr} {m : Str → Option Value} {env : Env} {elt : Expr} {x x₂ : Str} {scope : Scope} {cl : List (Str × Addr)} {S : List (Addr × Obj) → Prop} {Fin : List Value → List (Addr × Obj) → Prop} {news : List (Addr × Obj)}
/-- «[f(a, b) for a, b in pairs]», f an int -/
theorem kcp_pairs (g : Int → Int → Int) {vs : List Value} {ps : List (Int × Int)} (hps : PairsIn news vs ps)
    (turn : ∀ a b t u I oI C oC D m₂ ys h tk (E' : Value → Shared → Prop), (a, b) ∈ ps → LCg.NsObj oC m₂ → m₂ x = some (.int a t) → m₂ x₂ = some (.int b u) → Fr h₀ L h m → News h₀ L h ((I, oI) :: (C, oC) :: (D, LCg.lst ys) :: news) → LCg.Off3 I C D news → ((@Ne Nat I C) ∧ (@Ne Nat I D) ∧ (@Ne Nat C D)) → S news →
      wpAny (model prog w) A (eval elt (compEnvC scope cl C env)) (LCg.CompEnd h₀ L m { s with heap := h, toks := tk } I oI C oC D (LCg.lst ys) S (fun y news' => news' = news ∧ ∃ t, y = .int (g a b) t)) E' { s with heap := h, toks := tk })
    (hS : S news)
    (fin : ∀ ys, IntsAre ys (ps.map fun p => g p.1 p.2) → Fin ys news) : LCp.CompRestP prog w A h₀ L m env elt x x₂ scope cl s S (fun i v => vs.toArray[i]? = some v) Fin vs.toArray.size 0 [] news := by
  have key : ∀ (j i : Nat) (ys : List Value), i + j = ps.length → IntsAre ys ((ps.take i).map fun p => g p.1 p.2) → LCp.CompRestP prog w A h₀ L m env elt x x₂ scope cl s S (fun i v => vs.toArray[i]? = some v) Fin j i ys news := by
    intro j
    induction j with
    | zero =>
      intro i ys hi hy
      have e : i = ps.length := by omega
      subst e
      rw [List.take_length] at hy
      exact LCp.CompRestP.zero (fin ys hy)
    | succ j ih =>
      intro i ys hi hy
      refine LCp.CompRestP.succ fun v hv => ?_
      obtain ⟨a, t, u, p, q, rfl, hm, hg⟩ := hps.get (i := i) (v := v) (by simpa using hv)
      refine ⟨a, _, .int p t, .int q u, 0, rfl, hm, rfl, rfl, fun I oI C oC D m₂ h tk E' hC hx hx' F N off ne => ?_⟩
      have hmem : (p, q) ∈ ps := List.mem_of_getElem? hg
      refine wpAny_mono (turn p q t u I oI C oC D m₂ ys h tk E' hmem hC hx hx' F N off ne hS) (fun y s' hq => ?_) fun _ _ x => x
      obtain ⟨h', tk', nw, e, F', N', off', hS', hn, t', rfl⟩ := hq
      subst hn
      refine ⟨h', tk', nw, e, F', N', off', hS', ih (i + 1) _ (by omega) ?_⟩
      have hs : ps.take (i + 1) = ps.take i ++ [(p, q)] := by simp [List.take_add_one, hg]
      rw [hs, List.map_append]
      exact hy.append (.cons _ _ .nil)
  have h0 := key ps.length 0 [] (by omega) (by simpa using IntsAre.nil)
  rw [List.size_toArray, hps.length]
  exact h0
end

section
variable {prog : Program} {w : World} {A : Around} {E : Value → Shared → Prop} {s : Shared} {env : Env} {h₀ : Heap} {target : Expr} {body : List Stmt} {Q : Flow → Shared → Prop}
set_option maxHeartbeats 3200000 in
/-- a for with any target over a list that the call has made, by an invariant -/
theorem kdl_turns {l : Addr} {vs : List Value} {nn : Nat} {m₀ : Str → Option Value} {news : List (Addr × Obj)} (J : Nat → (Str → Option Value) → List (Addr × Obj) → Prop)
    (hh : A.handled = none) (hl : (l, listOf vs.toArray nn) ∈ news) (F : Fr h₀ env.locals s.heap m₀) (N : News h₀ env.locals s.heap news) (hj : J 0 m₀ news)
    (turn : ∀ i v m₁ news₁ h tk own, vs[i]? = some v → OwnOff own (news₁.map (·.1)) → (l, listOf vs.toArray nn) ∈ news₁ → J i m₁ news₁ → Fr h₀ env.locals h m₁ → News h₀ env.locals h (news₁ ++ own) →
      wpAny (model prog w) A (assign target env v) (fun _ s₃ => wpAny (model prog w) A (execs body env) (InvPostG h₀ env.locals (fun m' nx => (l, listOf vs.toArray nn) ∈ nx ∧ J (i + 1) m' nx) own { s with heap := h, toks := tk } Q) E s₃) E { s with heap := h, toks := tk })
    (done : ∀ m₁ news₁ h tk, J vs.length m₁ news₁ → Fr h₀ env.locals h m₁ → News h₀ env.locals h news₁ → Q .next { s with heap := h, toks := tk }) :
    wpAny (model prog w) A (pyIter (.ref l)) (fun it s₂ => TurnsAt prog w A h₀ env target body Q E it s₂) E s := by
  have hol : s.heap.get? l = some (listOf vs.toArray nn) := (N _ hl).1
  have hls : s.heap.IsList l vs.toArray := ⟨_, hol, rfl, nn, rfl⟩
  have hne : l ≠ s.heap.objs.size := Nat.ne_of_lt (Heap.lt_size hol)
  refine wpAny_pyIter_list hls ?_
  have W := KTurns.ofWalks (target := target) (Walks.list (prog := prog) (w := w) hh s.heap.objs.size l hne vs.toArray) fun i v s Q E st q => letGo_listiter st.1 q
  have hlen : vs.toArray.size = vs.length := by simp
  rw [hlen] at W
  refine ⟨_, _, _, vs.length, _, _, _, m₀, news, (fun i m nx => (l, listOf vs.toArray nn) ∈ nx ∧ J i m nx), rfl, W, ?_, ?_, ?_, ⟨⟨_, Heap.get?_push_size _ rfl, rfl, rfl⟩, hls.at fun o e => Heap.get?_push_of_some _ e⟩, F.push _, (fun p hp => ⟨Heap.get?_push_of_some _ (N p hp).1, (N p hp).2⟩), ⟨hl, hj⟩, ?_, ?_⟩
  · intro hm
    rcases List.mem_cons.mp hm with e | hm
    · exact absurd F.ns.lt (e ▸ Nat.lt_irrefl _)
    · exact (N _ hl).2.1 ((List.mem_singleton.mp hm).symm)
  · intro b hb
    rw [List.mem_singleton.mp hb]
    exact next_is_new F
  · intro p hp hI
    exact absurd (Heap.lt_size (N p hp).1) ((List.mem_singleton.mp hI) ▸ Nat.lt_irrefl _)
  · rintro i v m₁ news₁ hh' tk' own hin hP ⟨hl₁, hJ⟩ hoff hown hget hfp hst F₁ N₁
    have hP' : vs[i]? = some v := by simpa using hP
    have hI0 : h₀.get? s.heap.objs.size = none := next_is_new F
    obtain ⟨⟨oI, hoI, _⟩, _⟩ := id hst
    have hIown : (s.heap.objs.size, oI) ∈ own.filter fun p => decide (p.1 = s.heap.objs.size) := List.mem_filter.mpr ⟨hfp _ (List.mem_cons.mpr (.inl rfl)) hI0 _ hoI, by simp⟩
    have hsep : OwnOff (own.filter fun p => decide (p.1 = s.heap.objs.size)) (news₁.map (·.1)) := by
      intro p hp b hb e
      obtain ⟨q, hq, rfl⟩ := List.mem_map.mp hb
      have h1 : p.1 = s.heap.objs.size := by simpa using (List.mem_filter.mp hp).2
      exact hoff q hq (List.mem_singleton.mpr (e ▸ h1))
    have N₂ : News h₀ env.locals hh' (news₁ ++ own.filter fun p => decide (p.1 = s.heap.objs.size)) := fun p hp => N₁ p ((List.mem_append.mp hp).elim (fun h => List.mem_append.mpr (.inr h)) fun h => List.mem_append.mpr (.inl ((List.mem_filter.mp h).1)))
    have hlo : hh'.get? l = some (listOf vs.toArray nn) := (N₁ _ (List.mem_append.mpr (.inr hl₁))).1
    refine wpAny_mono (turn i v m₁ news₁ hh' tk' _ hP' hsep hl₁ hJ F₁ N₂) (fun _ s₃ q => wpAny_mono q (fun f s₂ p => ?_) fun _ _ e => e) fun _ _ e => e
    have fin : InvEndG h₀ env.locals (fun m' nx => (l, listOf vs.toArray nn) ∈ nx ∧ J (i + 1) m' nx) (own.filter fun p => decide (p.1 = s.heap.objs.size)) { s with heap := hh', toks := tk' } s₂ →
        LoopStepU h₀ env.locals [s.heap.objs.size] own (fun m nx => (l, listOf vs.toArray nn) ∈ nx ∧ J (i + 1) m nx) { s with heap := hh', toks := tk' } .next s₂ := by
      rintro ⟨h', tk, m', news', nx, e, F', N', hn, ho, ha, hm⟩
      refine ⟨rfl, h', tk, m', nx, e, F', fun p hp => ?_, fun p hp hq => ?_, hm⟩
      · rcases List.mem_append.mp hp with h | h
        · by_cases hI : p.1 = s.heap.objs.size
          · exact N' p (ho p (List.mem_filter.mpr ⟨h, by simpa using hI⟩))
          · have h1 : p.1 = l := by
              rcases List.mem_cons.mp (hown p h) with h2 | h2
              · exact absurd h2 hI
              · exact List.mem_singleton.mp h2
            have h2 : hh'.get? p.1 = some p.2 := hget p h
            rw [h1, hlo] at h2
            have h3 : p = (l, listOf vs.toArray nn) := Prod.ext h1 (Option.some.inj h2).symm
            rw [h3]
            exact N' _ (hn _ hm.1)
        · exact N' p (hn p h)
      · exact ha _ hIown p.1 (List.mem_map.mpr ⟨p, hp, rfl⟩) (List.mem_singleton.mp hq).symm
    cases f with
    | ret v => exact .ret p
    | brk => exact .brk p
    | next => exact .next (fin p)
    | cont => exact .cont (fin p)
  · rintro h' tk m' news' F' N' _ ⟨_, hJ⟩
    exact done m' news' h' tk hJ F' N'
end

abbrev sPlace : Str := Str.ofString "place"
abbrev sDue : Str := Str.ofString "due"
abbrev sOther : Str := Str.ofString "other"
abbrev sLen : Str := Str.ofString "length"
def pre (ps : List (Int × Int)) (i : Nat) : Int := ((ps.take i).map Prod.snd).sum
theorem pre_succ {ps : List (Int × Int)} {i : Nat} {a b : Int} (h : ps[i]? = some (a, b)) : pre ps (i + 1) = pre ps i + b := by
  unfold pre
  have hs : ps.take (i + 1) = ps.take i ++ [(a, b)] := by simp [List.take_add_one, h]
  rw [hs, List.map_append, List.sum_append]
  simp
theorem pre_mono {ps : List (Int × Int)} (hp : ∀ a b, (a, b) ∈ ps → 0 ≤ b) : ∀ {i j : Nat}, i ≤ j → j ≤ ps.length → pre ps i ≤ pre ps j := by
  intro i j h hj
  induction j with
  | zero =>
    have : i = 0 := by omega
    subst this
    exact Int.le_refl _
  | succ j ih =>
    by_cases e : i = j + 1
    · subst e; exact Int.le_refl _
    · have h1 := ih (by omega) (by omega)
      have hlt : j < ps.length := by omega
      have hg : ps[j]? = some (ps[j].1, ps[j].2) := by simp [hlt]
      rw [pre_succ hg]
      have := hp ps[j].1 ps[j].2 (List.getElem_mem hlt)
      omega

def FRP (m₀ U : Str → Option Value) (p : Int) (tp : Tok) (du : Value) : Str → Option Value := fun z =>
  if z = sPlace then some (.int p tp) else if z = sDue then some du else if z = sOther then U z else if z = sLen then U z else m₀ z
def Same4 (m₀ m : Str → Option Value) : Prop := ∀ z, z ≠ sPlace → z ≠ sDue → z ≠ sOther → z ≠ sLen → m z = m₀ z
theorem frp_eq {m₀ m : Str → Option Value} {p : Int} {tp : Tok} {du : Value} (h1 : m sPlace = some (.int p tp)) (h2 : m sDue = some du) (h3 : Same4 m₀ m) : FRP m₀ m p tp du = m := by
  funext z
  unfold FRP
  by_cases c1 : z = sPlace
  · rw [if_pos c1, c1, h1]
  · rw [if_neg c1]
    by_cases c2 : z = sDue
    · rw [if_pos c2, c2, h2]
    · rw [if_neg c2]
      by_cases c3 : z = sOther
      · rw [if_pos c3]
      · rw [if_neg c3]
        by_cases c4 : z = sLen
        · rw [if_pos c4]
        · rw [if_neg c4]; exact (h3 z c1 c2 c3 c4).symm

/-- a turn's end of the search for the month: not found yet -/
def JNo (l : Addr × Obj) (news : List (Addr × Obj)) (m₀ : Str → Option Value) (p : Int) (m : Str → Option Value) (nx : List (Addr × Obj)) : Prop :=
  nx = news ∧ (∃ t, m sPlace = some (.int p t)) ∧ m sDue = some .none ∧ Same4 m₀ m
def JYes (l : Addr × Obj) (news : List (Addr × Obj)) (m₀ : Str → Option Value) (k d p : Int) (m : Str → Option Value) (nx : List (Addr × Obj)) : Prop :=
  ∃ D t u, nx = (D, tup2 k d t u) :: news ∧ (∃ t, m sPlace = some (.int p t)) ∧ m sDue = some (.ref D) ∧ Same4 m₀ m
theorem endNo {l : Addr × Obj} {news own news' : List (Addr × Obj)} {m₀ m' : Str → Option Value} {p q : Int} {L : Addr} {h' : Heap} {tk : Nat} {t : Tok} {s₁ : Shared} {h₀ : Heap} (F : Fr h₀ L h' m') (N : News h₀ L h' news') (hv : m' sPlace = some (.int q t)) (he : q = p) (hd : m' sDue = some .none)
    (hr : Same4 m₀ m') (ho : OwnOff own (news.map (·.1))) (hn : ∀ p ∈ news ++ own, p ∈ news') : InvEndG h₀ L (JNo l news m₀ p) own s₁ { s₁ with heap := h', toks := tk } := by
  subst he
  exact InvEndG.intro F N ⟨rfl, ⟨t, hv⟩, hd, hr⟩ ho (fun p hp => hn p (List.mem_append.mpr (.inl hp))) (fun p hp => hn p (List.mem_append.mpr (.inr hp)))
theorem endYes {l : Addr × Obj} {news own news' : List (Addr × Obj)} {m₀ m' : Str → Option Value} {k d k' d' p q : Int} {L D : Addr} {h' : Heap} {tk : Nat} {t t₁ t₂ : Tok} {s₁ : Shared} {h₀ : Heap} (F : Fr h₀ L h' m') (N : News h₀ L h' news') (hD : (D, tup2 k' d' t₁ t₂) ∈ news') (hv : m' sPlace = some (.int q t)) (hd : m' sDue = some (.ref D)) (he : q = p) (hk : k' = k) (hd' : d' = d)
    (hr : Same4 m₀ m') (ho : OwnOff own (news.map (·.1))) (hn : ∀ p ∈ news ++ own, p ∈ news') (hl : ∀ p ∈ own, p.1 ≠ D) : InvEndG h₀ L (JYes l news m₀ k d p) own s₁ { s₁ with heap := h', toks := tk } := by
  subst he; subst hk; subst hd'
  refine InvEndG.intro (nx := (D, tup2 k' d' t₁ t₂) :: news) F N ⟨D, t₁, t₂, rfl, ⟨t, hv⟩, hd, hr⟩ ?_ ?_ (fun p hp => hn p (List.mem_append.mpr (.inr hp)))
  · intro p hp b hb
    rcases List.mem_cons.mp hb with e | hb
    · rw [e]; exact hl p hp
    · exact ho p hp b hb
  · intro p hp
    rcases List.mem_cons.mp hp with rfl | hp
    · exact hD
    · exact hn p (List.mem_append.mpr (.inl hp))

section
variable {prog : Program} {w : World} {A : Around} {E : Value → Shared → Prop} {s : Shared} {env : Env} {h₀ : Heap} {target : Expr} {body : List Stmt} {Q : Flow → Shared → Prop}
set_option maxHeartbeats 3200000 in
/-- the law's search for the month and the day -/
theorem due_loop {l : Addr} {vs : List Value} {nn : Nat} {m₀ : Str → Option Value} {news : List (Addr × Obj)} {ps : List (Int × Int)} {p₀ k d b₀ : Int} {i₀ : Nat} {tp : Tok}
    (hh : A.handled = none) (hl : (l, listOf vs.toArray nn) ∈ news) (hps : PairsIn news vs ps) (F : Fr h₀ env.locals s.heap m₀) (N : News h₀ env.locals s.heap news)
    (hp₀ : m₀ sPlace = some (.int p₀ tp)) (hdu : m₀ sDue = some .none) (hnn : ∀ a b, (a, b) ∈ ps → 0 ≤ b) (hi : ps[i₀]? = some (k, b₀)) (hlo : pre ps i₀ ≤ p₀) (hhi : p₀ < pre ps i₀ + b₀) (hd : d = p₀ - pre ps i₀ + 1)
    (before : ∀ a x y t u p tp (U : Str → Option Value) h tk own, y ≤ p → (a, tup2 x y t u) ∈ news ++ own → OwnOff own (news.map (·.1)) → Fr h₀ env.locals h (FRP m₀ U p tp .none) → News h₀ env.locals h (news ++ own) →
      wpAny (model prog w) A (assign target env (.ref a)) (fun _ s₃ => wpAny (model prog w) A (execs body env) (InvPostG h₀ env.locals (JNo (l, listOf vs.toArray nn) news m₀ (p - y)) own { s with heap := h, toks := tk } Q) E s₃) E { s with heap := h, toks := tk })
    (at_ : ∀ a y t u p tp (U : Str → Option Value) h tk own, p < y → p + 1 = d → (a, tup2 k y t u) ∈ news ++ own → OwnOff own (news.map (·.1)) → Fr h₀ env.locals h (FRP m₀ U p tp .none) → News h₀ env.locals h (news ++ own) →
      wpAny (model prog w) A (assign target env (.ref a)) (fun _ s₃ => wpAny (model prog w) A (execs body env) (InvPostG h₀ env.locals (JYes (l, listOf vs.toArray nn) news m₀ k d (p - y)) own { s with heap := h, toks := tk } Q) E s₃) E { s with heap := h, toks := tk })
    (after : ∀ a x y t u D t₁ t₂ p tp (U : Str → Option Value) h tk own, (a, tup2 x y t u) ∈ (D, tup2 k d t₁ t₂) :: (news ++ own) → OwnOff own (news.map (·.1)) → (∀ p ∈ own, p.1 ≠ D) → Fr h₀ env.locals h (FRP m₀ U p tp (.ref D)) → News h₀ env.locals h ((D, tup2 k d t₁ t₂) :: (news ++ own)) →
      wpAny (model prog w) A (assign target env (.ref a)) (fun _ s₃ => wpAny (model prog w) A (execs body env) (InvPostG h₀ env.locals (JYes (l, listOf vs.toArray nn) news m₀ k d (p - y)) own { s with heap := h, toks := tk } Q) E s₃) E { s with heap := h, toks := tk })
    (done : ∀ D t₁ t₂ p tp (U : Str → Option Value) h tk, Fr h₀ env.locals h (FRP m₀ U p tp (.ref D)) → News h₀ env.locals h ((D, tup2 k d t₁ t₂) :: news) → Q .next { s with heap := h, toks := tk }) :
    wpAny (model prog w) A (pyIter (.ref l)) (fun it s₂ => TurnsAt prog w A h₀ env target body Q E it s₂) E s := by
  have hi₀ : i₀ < ps.length := by
    rcases Nat.lt_or_ge i₀ ps.length with h | h
    · exact h
    · rw [List.getElem?_eq_none h] at hi; cases hi
  refine kdl_turns (fun i m nx => (i ≤ i₀ ∧ JNo (l, listOf vs.toArray nn) news m₀ (p₀ - pre ps i) m nx) ∨ (i₀ < i ∧ JYes (l, listOf vs.toArray nn) news m₀ k d (p₀ - pre ps i) m nx)) hh hl F N (.inl ⟨Nat.zero_le _, rfl, ⟨tp, by simpa [pre] using hp₀⟩, hdu, fun _ _ _ _ _ => rfl⟩) ?_ ?_
  · rintro i v m₁ nx h tk own hv hoff _ hJ F₁ N₁
    obtain ⟨a, t, u, x, y, rfl, hm, hg⟩ := hps.get hv
    have hstep := pre_succ hg
    have lift : ∀ {J' : (Str → Option Value) → List (Addr × Obj) → Prop} {f : Flow} {s₂ : Shared}, (∀ m' nx, J' m' nx → (l, listOf vs.toArray nn) ∈ nx ∧ ((i + 1 ≤ i₀ ∧ JNo (l, listOf vs.toArray nn) news m₀ (p₀ - pre ps (i + 1)) m' nx) ∨ (i₀ < i + 1 ∧ JYes (l, listOf vs.toArray nn) news m₀ k d (p₀ - pre ps (i + 1)) m' nx))) →
        InvPostG h₀ env.locals J' own { s with heap := h, toks := tk } Q f s₂ → InvPostG h₀ env.locals (fun m' nx => (l, listOf vs.toArray nn) ∈ nx ∧ ((i + 1 ≤ i₀ ∧ JNo (l, listOf vs.toArray nn) news m₀ (p₀ - pre ps (i + 1)) m' nx) ∨ (i₀ < i + 1 ∧ JYes (l, listOf vs.toArray nn) news m₀ k d (p₀ - pre ps (i + 1)) m' nx))) own { s with heap := h, toks := tk } Q f s₂ := by
      intro J' f s₂ hk q
      have go : InvEndG h₀ env.locals J' own { s with heap := h, toks := tk } s₂ → InvEndG h₀ env.locals (fun m' nx => (l, listOf vs.toArray nn) ∈ nx ∧ ((i + 1 ≤ i₀ ∧ JNo (l, listOf vs.toArray nn) news m₀ (p₀ - pre ps (i + 1)) m' nx) ∨ (i₀ < i + 1 ∧ JYes (l, listOf vs.toArray nn) news m₀ k d (p₀ - pre ps (i + 1)) m' nx))) own { s with heap := h, toks := tk } s₂ := by
        rintro ⟨h', tk', m', news', nx, e, F', N', hn, ho, ha, hj⟩
        exact ⟨h', tk', m', news', nx, e, F', N', hn, ho, ha, hk _ _ hj⟩
      cases f with
      | ret v => exact q
      | brk => exact q
      | next => exact go q
      | cont => exact go q
    rcases hJ with ⟨hi', rfl, ⟨t', h1⟩, h2, h3⟩ | ⟨hi', D, t₁, t₂, rfl, ⟨t', h1⟩, h2, h3⟩
    · have hF : Fr h₀ env.locals h (FRP m₀ m₁ (p₀ - pre ps i) t' .none) := by rw [frp_eq h1 h2 h3]; exact F₁
      rcases Nat.lt_or_eq_of_le hi' with hlt | rfl
      · have hle : pre ps (i + 1) ≤ pre ps i₀ := pre_mono hnn hlt (Nat.le_of_lt hi₀)
        refine wpAny_mono (before a x y t u _ t' m₁ h tk own (by omega) (List.mem_append.mpr (.inl hm)) hoff hF N₁) (fun _ s₃ q => wpAny_mono q (fun f s₂ p => lift (fun m' nx hj => ?_) p) fun _ _ e => e) fun _ _ e => e
        obtain ⟨e, ⟨t'', e1⟩, e2, e3⟩ := hj
        subst e
        exact ⟨hl, .inl ⟨hlt, rfl, ⟨t'', by rw [e1, hstep]; congr 2; omega⟩, e2, e3⟩⟩
      · have hxy : (k, b₀) = (x, y) := Option.some.inj (hi.symm.trans hg)
        obtain ⟨rfl, rfl⟩ := Prod.mk.inj hxy
        refine wpAny_mono (at_ a _ t u _ t' m₁ h tk own (by omega) (by omega) (List.mem_append.mpr (.inl hm)) hoff hF N₁) (fun _ s₃ q => wpAny_mono q (fun f s₂ p => lift (fun m' nx hj => ?_) p) fun _ _ e => e) fun _ _ e => e
        obtain ⟨D, t₁, t₂, e, ⟨t'', e1⟩, e2, e3⟩ := hj
        subst e
        exact ⟨List.mem_cons_of_mem _ hl, .inr ⟨Nat.lt_succ_self _, D, t₁, t₂, rfl, ⟨t'', by rw [e1, hstep]; congr 2; omega⟩, e2, e3⟩⟩
    · have hF : Fr h₀ env.locals h (FRP m₀ m₁ (p₀ - pre ps i) t' (.ref D)) := by rw [frp_eq h1 h2 h3]; exact F₁
      have hoff' : OwnOff own (news.map (·.1)) := fun p hp b hb => hoff p hp b (List.mem_cons_of_mem _ hb)
      have hoD : ∀ p ∈ own, p.1 ≠ D := fun p hp => hoff p hp D (List.mem_cons_self)
      refine wpAny_mono (after a x y t u D t₁ t₂ _ t' m₁ h tk own (List.mem_cons_of_mem _ (List.mem_append.mpr (.inl hm))) hoff' hoD hF N₁) (fun _ s₃ q => wpAny_mono q (fun f s₂ p => lift (fun m' nx hj => ?_) p) fun _ _ e => e) fun _ _ e => e
      obtain ⟨D', t₁', t₂', e, ⟨t'', e1⟩, e2, e3⟩ := hj
      subst e
      exact ⟨List.mem_cons_of_mem _ hl, .inr ⟨Nat.lt_succ_of_lt hi', D', t₁', t₂', rfl, ⟨t'', by rw [e1, hstep]; congr 2; omega⟩, e2, e3⟩⟩
  · rintro m₁ nx h tk hJ F₁ N₁
    rw [hps.length] at hJ
    rcases hJ with ⟨hi', _⟩ | ⟨hi', D, t₁, t₂, rfl, ⟨t', h1⟩, h2, h3⟩
    · omega
    · exact done D t₁ t₂ _ t' m₁ h tk (by rw [frp_eq h1 h2 h3]; exact F₁) N₁
end

def DDone (h₀ : Heap) (L c : Addr) (rest : List (Addr × Obj)) (s₁ s₂ : Shared) : Prop :=
  ∃ h' tk m' news' o' v', s₂ = { s₁ with heap := h', toks := tk } ∧ Fr h₀ L h' m' ∧ News h₀ L h' news' ∧ (c, o') ∈ news' ∧ o'.data = .cell v' ∧ ∀ p ∈ rest, p ∈ news'
def DEnd (h₀ : Heap) (L c : Addr) (rest : List (Addr × Obj)) (s₁ : Shared) (Q : Flow → Shared → Prop) (f : Flow) (s₂ : Shared) : Prop :=
  match f with
  | .ret v => Q (.ret v) s₂
  | .brk => Q .next s₂
  | _ => DDone h₀ L c rest s₁ s₂
theorem DDone.intro {h₀ h' : Heap} {L c : Addr} {rest news' : List (Addr × Obj)} {s₁ : Shared} {m' : Str → Option Value} {o' : Obj} {v' : Option Value} {tk : Nat} (F : Fr h₀ L h' m') (N : News h₀ L h' news') (hc : (c, o') ∈ news') (hd : o'.data = .cell v') (hs : ∀ p ∈ rest, p ∈ news') :
    DDone h₀ L c rest s₁ { s₁ with heap := h', toks := tk } := ⟨h', tk, m', news', o', v', rfl, F, N, hc, hd, hs⟩
section
variable {prog : Program} {w : World} {A : Around} {E : Value → Shared → Prop} {s : Shared} {env : Env} {h₀ : Heap} {x : Str} {body : List Stmt} {Q : Flow → Shared → Prop}
/-- «for number in days» over the two days, the cell of «year» let free -/
theorem days_loop {c dl : Addr} {nn : Nat} {o : Obj} {v₀ : Option Value} {n₀ n₁ : Int} {t₀ t₁ : Tok} {m₀ : Str → Option Value} {news : List (Addr × Obj)}
    (hh : A.handled = none) (hl : (dl, listOf [Value.int n₀ t₀, Value.int n₁ t₁].toArray nn) ∈ news) (hc : (c, o) ∈ news) (hd : o.data = .cell v₀) (hne : dl ≠ c) (F : Fr h₀ env.locals s.heap m₀) (N : News h₀ env.locals s.heap news)
    (h0 : 347998 ≤ n₀ ∧ n₀ ≤ 3700000000) (h1 : 347998 ≤ n₁ ∧ n₁ ≤ 3700000000)
    (turn : ∀ n t o v (U : Str → Option Value) h tk rest, 347998 ≤ n → n ≤ 3700000000 → o.data = .cell v → (∀ p ∈ rest, p.1 ≠ c) → Fr h₀ env.locals h (fun y => if y = x then some (.int n t) else U y) → News h₀ env.locals h ((c, o) :: rest) →
      wpAny (model prog w) A (execs body env) (DEnd h₀ env.locals c rest { s with heap := h, toks := tk } Q) E { s with heap := h, toks := tk })
    (done : ∀ (m' : Str → Option Value) h tk, Fr h₀ env.locals h m' → News h₀ env.locals h [] → Q .next { s with heap := h, toks := tk }) :
    wpAny (model prog w) A (pyIter (.ref dl)) (fun it s₂ => LoopAtV prog w A h₀ env x body Q E it s₂) E s := by
  have N' : News h₀ env.locals s.heap [(c, o), (dl, listOf [Value.int n₀ t₀, Value.int n₁ t₁].toArray nn)] := fun p hp => by
    rcases List.mem_cons.mp hp with rfl | hp
    · exact N _ hc
    · rw [List.mem_singleton.mp hp]; exact N _ hl
  refine kdl_iter (vs := [Value.int n₀ t₀, Value.int n₁ t₁]) (fun _ _ nx => ∃ o v, o.data = .cell v ∧ nx = [(c, o), (dl, listOf [Value.int n₀ t₀, Value.int n₁ t₁].toArray nn)]) hh (List.mem_cons_of_mem _ (List.mem_singleton.mpr rfl)) F N' ⟨o, v₀, hd, rfl⟩ ?_ ?_
  · rintro i v m₁ nx h tk own hv hoff _ ⟨o, v', hd', rfl⟩ F₁ N₁
    have hv' : ∃ n t, v = .int n t ∧ 347998 ≤ n ∧ n ≤ 3700000000 := by
      match i, hv with
      | 0, hv => exact ⟨n₀, t₀, by simpa using hv.symm, h0⟩
      | 1, hv => exact ⟨n₁, t₁, by simpa using hv.symm, h1⟩
      | i + 2, hv => simp at hv
    obtain ⟨n, t, rfl, b0, b1⟩ := hv'
    have hrest : ∀ p ∈ (dl, listOf [Value.int n₀ t₀, Value.int n₁ t₁].toArray nn) :: own, p.1 ≠ c := by
      intro p hp
      rcases List.mem_cons.mp hp with rfl | hp
      · exact hne
      · exact hoff p hp c (by simp)
    refine wpAny_mono (turn n t o v' m₁ h tk ((dl, listOf [Value.int n₀ t₀, Value.int n₁ t₁].toArray nn) :: own) b0 b1 hd' hrest F₁ N₁) (fun f s₂ q => ?_) fun _ _ e => e
    have go : DDone h₀ env.locals c ((dl, listOf [Value.int n₀ t₀, Value.int n₁ t₁].toArray nn) :: own) { s with heap := h, toks := tk } s₂ → InvEndG h₀ env.locals (fun m' nx => (dl, listOf [Value.int n₀ t₀, Value.int n₁ t₁].toArray nn) ∈ nx ∧ ∃ o v, o.data = .cell v ∧ nx = [(c, o), (dl, listOf [Value.int n₀ t₀, Value.int n₁ t₁].toArray nn)]) own { s with heap := h, toks := tk } s₂ := by
      rintro ⟨h', tk', m', news', o', v'', e, F', N'', hc', hd'', hs⟩
      refine ⟨h', tk', m', news', [(c, o'), (dl, listOf [Value.int n₀ t₀, Value.int n₁ t₁].toArray nn)], e, F', N'', ?_, fun p hp => hs p (List.mem_cons_of_mem _ hp), ?_, List.mem_cons_of_mem _ (List.mem_singleton.mpr rfl), o', v'', hd'', rfl⟩
      · intro p hp
        rcases List.mem_cons.mp hp with rfl | hp
        · exact hc'
        · rw [List.mem_singleton.mp hp]; exact hs _ List.mem_cons_self
      · intro p hp b hb
        exact hoff p hp b hb
    cases f with
    | ret v => exact q
    | brk => exact q
    | next => exact go q
    | cont => exact go q
  · rintro m₁ nx h tk _ F₁ _
    exact done m₁ h tk F₁ (fun _ hp => nomatch hp)
end
section
variable {M : Model} {A : Around} {E : Value → Shared → Prop} {s : Shared} {h₀ : Heap} {L a : Addr} {m : Str → Option Value} {cn : Str} {cs : Scope} {ccd : Value} {cl : List (Str × Addr)}
  {x : Str} {v : Value} {Q : Unit → Shared → Prop} {rest : List (Addr × Obj)} {c d : Addr} {o T : Obj} {v₀ : Option Value}
/-- the cell's store under one made object -/
theorem storeCell2 (F : Fr h₀ L s.heap m) (N : News h₀ L s.heap ((d, T) :: (c, o) :: rest)) (hc : cl.lookup x = some c) (hd : o.data = .cell v₀) (hne : d ≠ c) (hl : ∀ p ∈ rest, p.1 ≠ c)
    (h : ∀ h' o', Fr h₀ L h' m → News h₀ L h' ((d, T) :: (c, o') :: rest) → o'.data = .cell (some v) → Q () { s with heap := h' })
    (hk : cs.kind = .function := by rfl) (hx : (envX cn cs L a ccd cl).kindOf x = some .cell := by rfl) : wpAny M A (storeName (envX cn cs L a ccd cl) x v) Q E s :=
  storeX_C (g := fun o' => (d, T) :: (c, o') :: rest) F N hc (UpdF.tail hne (UpdF.head hl)) hd h hk hx
end
/-- a choice of two written ints is one path -/
theorem ifExp_ii {M : Model} {A : Around} {E : Value → Shared → Prop} {s : Shared} {env : Env} {test : Expr} {i j : Int} {k k' : Nat} {p p' pos : Pos} {Q : Value → Shared → Prop}
    (h : wpAny M A (isTrue test env (eval test env)) (fun b s₁ => Q (.int (if b = true then i else j) s₁.toks) { s₁ with toks := s₁.toks + 1 }) E s) :
    wpAny M A (eval (.IfExp test (.Constant (.int i) k p) (.Constant (.int j) k' p') pos) env) Q E s := by
  refine IfExp_ (wpAny_mono h (fun b s₁ q => ?_) fun _ _ e => e)
  cases b with
  | true => exact wpAny_Constant_int q
  | false => exact wpAny_Constant_int q

/-- the law's months -/
def mons (y : Int) : List (Int × Int) := if lp y then [7, 8, 9, 10, 11, 12, 13, 1, 2, 3, 4, 5, 6].map (fun k => (k, ml y k)) else [7, 8, 9, 10, 11, 12, 1, 2, 3, 4, 5, 6].map (fun k => (k, ml y k))
abbrev RetM (h₀ : Heap) (L : Addr) (m : Str → Option Value) (news : List (Addr × Obj)) (s : Shared) (Q : Value → Shared → Prop) (y : Int) : Prop :=
  ∀ (vs : List Value) (nn : Nat) (l : Addr) (news' : List (Addr × Obj)) (h' : Heap) (tk' : Nat), PairsIn news' vs (mons y) → (l, listOf vs.toArray nn) ∈ news' → (∀ p ∈ news, p ∈ news') → Fr h₀ L h' m → News h₀ L h' news' → Q (.ref l) { s with heap := h', toks := tk' }
theorem retM {h₀ h' : Heap} {L : Addr} {m : Str → Option Value} {news objs : List (Addr × Obj)} {s : Shared} {Q : Value → Shared → Prop} {tk' nn : Nat} {y : Int} {vs : List Value} {l : Addr} (hret : RetM h₀ L m news s Q y) (N : News h₀ L s.heap news) (F : Fr h₀ L h' m) (M : News h₀ L h' objs) (k : Keeps s.heap h') (hl : (l, listOf vs.toArray nn) ∈ objs) (hp : PairsIn objs vs (mons y)) : Q (.ref l) { s with heap := h', toks := tk' } :=
  hret vs nn l (objs ++ news) h' tk' (hp.mono fun p hp => List.mem_append.mpr (.inl hp)) (List.mem_append.mpr (.inl hl)) (fun p hp => List.mem_append.mpr (.inr hp)) F (news_both N k M)
theorem PairsIn.cons2 {news : List (Addr × Obj)} {a : Addr} {t u : Tok} {x y y' : Int} {vs : List Value} {ps : List (Int × Int)} (h : (a, tup2 x y t u) ∈ news) (e : y = y') (r : PairsIn news vs ps) : PairsIn news (.ref a :: vs) ((x, y') :: ps) := by
  subst e; exact .cons h r
theorem ml_8 (y : Int) : (if decide ((yd y).fmod 10 = 5) = true then 30 else 29) = ml y 8 := by
  rw [Int.fmod_eq_emod_of_nonneg _ (by decide)]
  unfold ml
  simp only [decide_eq_true_eq]
  by_cases h : yd y % 10 = 5
  · rw [if_pos h]; simp [h]
  · rw [if_neg h]; simp [h]
theorem ml_9 (y : Int) : (if decide ((yd y).fmod 10 = 3) = true then 29 else 30) = ml y 9 := by
  rw [Int.fmod_eq_emod_of_nonneg _ (by decide)]
  unfold ml
  simp only [decide_eq_true_eq]
  by_cases h : yd y % 10 = 3
  · rw [if_pos h]; simp [h]
  · rw [if_neg h]; simp [h]
theorem ml_30 (y : Int) : ml y 7 = 30 ∧ ml y 11 = 30 ∧ ml y 1 = 30 ∧ ml y 3 = 30 ∧ ml y 5 = 30 := by simp [ml]
theorem ml_29 (y : Int) : ml y 10 = 29 ∧ ml y 13 = 29 ∧ ml y 2 = 29 ∧ ml y 4 = 29 ∧ ml y 6 = 29 := by simp [ml]
theorem ml_12t {y : Int} (h : lp y = true) : 30 = ml y 12 := by simp [ml, h]
theorem ml_12f {y : Int} (h : lp y = false) : 29 = ml y 12 := by simp [ml, h]
theorem mons_t {y : Int} (h : lp y = true) : mons y = [(7, ml y 7), (8, ml y 8), (9, ml y 9), (10, ml y 10), (11, ml y 11), (12, ml y 12), (13, ml y 13), (1, ml y 1), (2, ml y 2), (3, ml y 3), (4, ml y 4), (5, ml y 5), (6, ml y 6)] := by unfold mons; rw [if_pos h]; rfl
theorem mons_f {y : Int} (h : lp y = false) : mons y = [(7, ml y 7), (8, ml y 8), (9, ml y 9), (10, ml y 10), (11, ml y 11), (12, ml y 12), (1, ml y 1), (2, ml y 2), (3, ml y 3), (4, ml y 4), (5, ml y 5), (6, ml y 6)] := by unfold mons; rw [h]; rfl
theorem retMt {h₀ h' : Heap} {L : Addr} {m : Str → Option Value} {news objs : List (Addr × Obj)} {s : Shared} {Q : Value → Shared → Prop} {tk' nn : Nat} {y : Int} {vs : List Value} {l : Addr} (hret : RetM h₀ L m news s Q y) (h : lp y = true) (N : News h₀ L s.heap news) (F : Fr h₀ L h' m) (M : News h₀ L h' objs) (k : Keeps s.heap h') (hl : (l, listOf vs.toArray nn) ∈ objs) (hp : PairsIn objs vs [(7, ml y 7), (8, ml y 8), (9, ml y 9), (10, ml y 10), (11, ml y 11), (12, ml y 12), (13, ml y 13), (1, ml y 1), (2, ml y 2), (3, ml y 3), (4, ml y 4), (5, ml y 5), (6, ml y 6)]) : Q (.ref l) { s with heap := h', toks := tk' } := retM hret N F M k hl (by rw [mons_t h]; exact hp)
theorem retMf {h₀ h' : Heap} {L : Addr} {m : Str → Option Value} {news objs : List (Addr × Obj)} {s : Shared} {Q : Value → Shared → Prop} {tk' nn : Nat} {y : Int} {vs : List Value} {l : Addr} (hret : RetM h₀ L m news s Q y) (h : lp y = false) (N : News h₀ L s.heap news) (F : Fr h₀ L h' m) (M : News h₀ L h' objs) (k : Keeps s.heap h') (hl : (l, listOf vs.toArray nn) ∈ objs) (hp : PairsIn objs vs [(7, ml y 7), (8, ml y 8), (9, ml y 9), (10, ml y 10), (11, ml y 11), (12, ml y 12), (1, ml y 1), (2, ml y 2), (3, ml y 3), (4, ml y 4), (5, ml y 5), (6, ml y 6)]) : Q (.ref l) { s with heap := h', toks := tk' } := retM hret N F M k hl (by rw [mons_f h]; exact hp)
end Mine

namespace Mine
open PySem PySem.Spec PySem.Calls PySem.W PyProof.Rows
set_option maxRecDepth 100000

theorem num_bd (ns : List Int) (i : Nat) : -10000000 < (List.map (fun k' : Int => if -10000000 < k' ∧ k' < 10000000 then k' else if -10000000 < k' ∧ ¬k' < 10000000 then k'.fmod 10000000 else k'.fmod 10000000) (List.take 3 ns) ++ [0, 0, 0]).getD i 0 ∧
    (List.map (fun k' : Int => if -10000000 < k' ∧ k' < 10000000 then k' else if -10000000 < k' ∧ ¬k' < 10000000 then k'.fmod 10000000 else k'.fmod 10000000) (List.take 3 ns) ++ [0, 0, 0]).getD i 0 < 10000000 := by
  have key : ∀ x ∈ (List.map (fun k' : Int => if -10000000 < k' ∧ k' < 10000000 then k' else if -10000000 < k' ∧ ¬k' < 10000000 then k'.fmod 10000000 else k'.fmod 10000000) (List.take 3 ns) ++ [0, 0, 0]), -10000000 < x ∧ x < 10000000 := by
    intro x hx
    rcases List.mem_append.mp hx with hx | hx
    · obtain ⟨k, _, rfl⟩ := List.mem_map.mp hx
      have e := Int.fmod_eq_emod_of_nonneg k (show (0 : Int) ≤ 10000000 by decide)
      rw [e]
      have h1 := Int.emod_nonneg k (show (10000000 : Int) ≠ 0 by decide)
      have h2 := Int.emod_lt_of_pos k (show (0 : Int) < 10000000 by decide)
      split
      · assumption
      · split <;> omega
    · simp at hx
      omega
  generalize (List.map (fun k' : Int => if -10000000 < k' ∧ k' < 10000000 then k' else if -10000000 < k' ∧ ¬k' < 10000000 then k'.fmod 10000000 else k'.fmod 10000000) (List.take 3 ns) ++ [0, 0, 0]) = l at *
  rw [List.getD_eq_getElem?_getD]
  cases h : l[i]? with
  | none => simp
  | some x => exact key x (List.mem_of_getElem? h)

theorem ny_law {y : Int} (h : 1 ≤ y) : 0 ≤ ny y ∧ ny y ≤ 366 * y := by
  have a := d2_bd y
  have b : dr y ≤ d1 y ∧ d1 y ≤ dr y + 1 := by unfold d1; split <;> omega
  have c : 0 ≤ dr y ∧ dr y ≤ 366 * y - 300 := by unfold dr mo; omega
  unfold ny
  omega
theorem mons_len (y : Int) : ((mons y).length : Int) = ym y := by
  unfold ym
  cases h : lp y with
  | true => rw [mons_t h]; rfl
  | false => rw [mons_f h]; rfl
theorem mons_nn (y : Int) : ∀ a b, (a, b) ∈ mons y → 0 ≤ b := by
  have key : ∀ (l : List Int) (a b : Int), (a, b) ∈ l.map (fun k => (k, ml y k)) → 0 ≤ b := by
    intro l a b h
    obtain ⟨k, _, e⟩ := List.mem_map.mp h
    have e2 := (Prod.mk.inj e).2
    have := ml_bd y k
    omega
  intro a b h
  unfold mons at h
  split at h
  · exact key _ a b h
  · exact key _ a b h
theorem mons_mem {y : Int} : ∀ a b, (a, b) ∈ mons y → b = ml y a ∧ 1 ≤ a ∧ a ≤ 13 := by
  have key : ∀ (l : List Int), (∀ k ∈ l, 1 ≤ k ∧ k ≤ 13) → ∀ (a b : Int), (a, b) ∈ l.map (fun k => (k, ml y k)) → b = ml y a ∧ 1 ≤ a ∧ a ≤ 13 := by
    intro l hl a b h
    obtain ⟨k, hk, e⟩ := List.mem_map.mp h
    have e1 := (Prod.mk.inj e).1
    have e2 := (Prod.mk.inj e).2
    subst e1
    exact ⟨e2.symm, hl k hk⟩
  intro a b h
  unfold mons at h
  split at h
  · exact key _ (by decide) a b h
  · exact key _ (by decide) a b h
theorem mons_same (y : Int) : ((mons y).map fun p => ml y p.1) = (mons y).map fun p => p.2 := by
  refine List.map_congr_left fun p hp => ?_
  exact ((mons_mem p.1 p.2 hp).1).symm
theorem off_sum {y : Int} {k : Int} (h : 1 ≤ k) (h' : k ≤ ym y) : ∃ i, (mons y)[i]? = some (k, ml y k) ∧ pre (mons y) i = off y k := by
  have e7 : off y 7 = 0 := off_7 y
  have s : ∀ j, 7 ≤ j → off y (j + 1) = off y j + ml y j := fun j hj => off_s7 y hj
  have s8 := s 7 (by decide); have s9 := s 8 (by decide); have s10 := s 9 (by decide); have s11 := s 10 (by decide); have s12 := s 11 (by decide); have s13 := s 12 (by decide)
  have o1 := off_1 y
  have t : ∀ j, 1 ≤ j → j < 6 → off y (j + 1) = off y j + ml y j := fun j hj hj' => off_s1 y hj hj'
  have t2 := t 1 (by decide) (by decide); have t3 := t 2 (by decide) (by decide); have t4 := t 3 (by decide) (by decide); have t5 := t 4 (by decide) (by decide); have t6 := t 5 (by decide) (by decide)
  simp only [Int.reduceAdd] at s8 s9 s10 s11 s12 s13 t2 t3 t4 t5 t6
  unfold ym at h' o1
  cases hl : lp y with
  | true =>
    rw [hl] at h' o1
    simp only [if_true] at h' o1
    rw [mons_t hl]
    have c : k = 1 ∨ k = 2 ∨ k = 3 ∨ k = 4 ∨ k = 5 ∨ k = 6 ∨ k = 7 ∨ k = 8 ∨ k = 9 ∨ k = 10 ∨ k = 11 ∨ k = 12 ∨ k = 13 := by omega
    rcases c with rfl | rfl | rfl | rfl | rfl | rfl | rfl | rfl | rfl | rfl | rfl | rfl | rfl
    · exact ⟨7, rfl, by simp [pre]; omega⟩
    · exact ⟨8, rfl, by simp [pre]; omega⟩
    · exact ⟨9, rfl, by simp [pre]; omega⟩
    · exact ⟨10, rfl, by simp [pre]; omega⟩
    · exact ⟨11, rfl, by simp [pre]; omega⟩
    · exact ⟨12, rfl, by simp [pre]; omega⟩
    · exact ⟨0, rfl, by simp [pre]; omega⟩
    · exact ⟨1, rfl, by simp [pre]; omega⟩
    · exact ⟨2, rfl, by simp [pre]; omega⟩
    · exact ⟨3, rfl, by simp [pre]; omega⟩
    · exact ⟨4, rfl, by simp [pre]; omega⟩
    · exact ⟨5, rfl, by simp [pre]; omega⟩
    · exact ⟨6, rfl, by simp [pre]; omega⟩
  | false =>
    rw [hl] at h' o1
    simp only [Bool.false_eq_true, if_false] at h' o1
    rw [mons_f hl]
    have c : k = 1 ∨ k = 2 ∨ k = 3 ∨ k = 4 ∨ k = 5 ∨ k = 6 ∨ k = 7 ∨ k = 8 ∨ k = 9 ∨ k = 10 ∨ k = 11 ∨ k = 12 := by omega
    rcases c with rfl | rfl | rfl | rfl | rfl | rfl | rfl | rfl | rfl | rfl | rfl | rfl
    · exact ⟨6, rfl, by simp [pre]; omega⟩
    · exact ⟨7, rfl, by simp [pre]; omega⟩
    · exact ⟨8, rfl, by simp [pre]; omega⟩
    · exact ⟨9, rfl, by simp [pre]; omega⟩
    · exact ⟨10, rfl, by simp [pre]; omega⟩
    · exact ⟨11, rfl, by simp [pre]; omega⟩
    · exact ⟨0, rfl, by simp [pre]; omega⟩
    · exact ⟨1, rfl, by simp [pre]; omega⟩
    · exact ⟨2, rfl, by simp [pre]; omega⟩
    · exact ⟨3, rfl, by simp [pre]; omega⟩
    · exact ⟨4, rfl, by simp [pre]; omega⟩
    · exact ⟨5, rfl, by simp [pre]; omega⟩

section
variable {prog : Program} {w : World} {A : Around} {E : Value → Shared → Prop} {s : Shared} {t u : Tok} {Q : Value → Shared → Prop}
theorem abs_num {n : Int} (hb : -10000000 < n ∧ n < 10000000) (h : ∀ z u tk, 0 ≤ z → z < 10000000 → Q (.int z u) { s with toks := tk }) : wpAny (model prog w) A (call (.builtin "abs") [.int n t]) Q E s :=
  call_abs_int fun u tk => h _ u tk (by split <;> omega) (by split <;> omega)
theorem mod_386 {n : Int} (h : ∀ z, 0 ≤ z → z < 386 → Q (.int z s.toks) { s with toks := s.toks + 1 }) : wpAny (model prog w) A (binaryOp .Mod (.int n t) (.int 386 u)) Q E s := by
  refine mod_int' (by decide) (h _ ?_ ?_)
  · rw [Int.fmod_eq_emod_of_nonneg _ (by decide)]; exact Int.emod_nonneg _ (by decide)
  · rw [Int.fmod_eq_emod_of_nonneg _ (by decide)]; exact Int.emod_lt_of_pos _ (by decide)
theorem len_mons {h₀ : Heap} {L : Addr} {news : List (Addr × Obj)} {l : Addr} {vs : List Value} {nn : Nat} {y : Int} (N : News h₀ L s.heap news) (hm : (l, listOf vs.toArray nn) ∈ news) {news' : List (Addr × Obj)} (hp : PairsIn news' vs (mons y))
    (h : Q (.int (ym y) (s.toks + 1)) { s with toks := s.toks + 1 + 1 }) : wpAny (model prog w) A (call (.builtin "len") [.ref l]) Q E s := by
  have e : (vs.length : Int) = ym y := by rw [hp.length, mons_len]
  have b := ym_bd y
  exact len_list (items := vs.toArray) ⟨_, (N _ hm).1, rfl, _, rfl⟩ (by rw [List.size_toArray]; omega) (by rw [List.size_toArray, e]; exact h)
end
theorem mons_fits {news : List (Addr × Obj)} {vs : List Value} {y : Int} (hp : PairsIn news vs (mons y)) : vs.toArray.size ≤ sizeLine := by
  have e : (vs.length : Int) = ym y := by rw [hp.length, mons_len]
  have b := ym_bd y
  rw [List.size_toArray, sizeLine_eq]
  omega
section
variable {prog : Program} {w : World} {A : Around} {E : Value → Shared → Prop} {s : Shared} {h₀ : Heap} {L : Addr} {m : Str → Option Value} {env : Env} {elt : Expr} {x x₂ : Str} {scope : Scope} {cl : List (Str × Addr)} {S : List (Addr × Obj) → Prop} {Fin : List Value → List (Addr × Obj) → Prop} {news news₀ : List (Addr × Obj)}
/-- «[month_length(year, other) for other, length in pairs]» -/
theorem kcp_ml {y : Int} {vs : List Value} (hps : PairsIn news₀ vs (mons y)) (hs : ∀ p ∈ news₀, p ∈ news)
    (turn : ∀ a b t u I oI C oC D m₂ ys h tk (E' : Value → Shared → Prop), 1 ≤ a → a ≤ 13 → LCg.NsObj oC m₂ → m₂ x = some (.int a t) → m₂ x₂ = some (.int b u) → Fr h₀ L h m → News h₀ L h ((I, oI) :: (C, oC) :: (D, LCg.lst ys) :: news) → LCg.Off3 I C D news → ((@Ne Nat I C) ∧ (@Ne Nat I D) ∧ (@Ne Nat C D)) → S news →
      wpAny (model prog w) A (eval elt (compEnvC scope cl C env)) (LCg.CompEnd h₀ L m { s with heap := h, toks := tk } I oI C oC D (LCg.lst ys) S (fun z news' => news' = news ∧ ∃ t, z = .int (ml y a) t)) E' { s with heap := h, toks := tk })
    (hS : S news)
    (fin : ∀ ys, IntsAre ys ((mons y).map fun p => p.2) → Fin ys news) : LCp.CompRestP prog w A h₀ L m env elt x x₂ scope cl s S (fun i v => vs.toArray[i]? = some v) Fin vs.toArray.size 0 [] news :=
  kcp_pairs (fun a _ => ml y a) (hps.mono hs) (fun a b t u I oI C oC D m₂ ys h tk E' hm h1 h2 h3 h4 h5 h6 h7 h8 => turn a b t u I oI C oC D m₂ ys h tk E' (mons_mem a b hm).2.1 (mons_mem a b hm).2.2 h1 h2 h3 h4 h5 h6 h7 h8) hS (fun ys hy => fin ys (by rw [← mons_same]; exact hy))
/-- «[length for other, length in pairs]» -/
theorem kcp_len {y : Int} {vs : List Value} (hps : PairsIn news₀ vs (mons y)) (hs : ∀ p ∈ news₀, p ∈ news)
    (turn : ∀ a b t u I oI C oC D m₂ ys h tk (E' : Value → Shared → Prop), LCg.NsObj oC m₂ → m₂ x = some (.int a t) → m₂ x₂ = some (.int b u) → Fr h₀ L h m → News h₀ L h ((I, oI) :: (C, oC) :: (D, LCg.lst ys) :: news) → LCg.Off3 I C D news → ((@Ne Nat I C) ∧ (@Ne Nat I D) ∧ (@Ne Nat C D)) → S news →
      wpAny (model prog w) A (eval elt (compEnvC scope cl C env)) (LCg.CompEnd h₀ L m { s with heap := h, toks := tk } I oI C oC D (LCg.lst ys) S (fun z news' => news' = news ∧ ∃ t, z = .int b t)) E' { s with heap := h, toks := tk })
    (hS : S news)
    (fin : ∀ ys, IntsAre ys ((mons y).map fun p => p.2) → Fin ys news) : LCp.CompRestP prog w A h₀ L m env elt x x₂ scope cl s S (fun i v => vs.toArray[i]? = some v) Fin vs.toArray.size 0 [] news :=
  kcp_pairs (fun _ b => b) (hps.mono hs) (fun a b t u I oI C oC D m₂ ys h tk E' _ h1 h2 h3 h4 h5 h6 h7 h8 => turn a b t u I oI C oC D m₂ ys h tk E' h1 h2 h3 h4 h5 h6 h7 h8) hS fin
end
theorem cell_mem {news : List (Addr × Obj)} {c : Addr} {o : Obj} {v : Value} (_hd : o.data = .cell (some v)) (hm : (c, o) ∈ news) : (c, o) ∈ news := hm
section
variable {prog : Program} {w : World} {A : Around} {E : Value → Shared → Prop} {s : Shared} {env : Env} {h₀ : Heap} {target : Expr} {body : List Stmt} {Q : Flow → Shared → Prop}
/-- the search for the month of a day that is told -/
theorem due_date {n Y k d : Int} (hD : DateOf n Y k d) {l : Addr} {vs : List Value} {nn : Nat} {m₀ : Str → Option Value} {news : List (Addr × Obj)} {p₀ : Int} {tp : Tok}
    (hh : A.handled = none) (hl : (l, listOf vs.toArray nn) ∈ news) (hps : PairsIn news vs (mons Y)) (F : Fr h₀ env.locals s.heap m₀) (N : News h₀ env.locals s.heap news)
    (hp₀ : m₀ sPlace = some (.int p₀ tp)) (hdu : m₀ sDue = some .none) (he : p₀ = n - (347998 + ny Y))
    (before : ∀ a x y t u p tp (U : Str → Option Value) h tk own, y ≤ p → (a, tup2 x y t u) ∈ news ++ own → OwnOff own (news.map (·.1)) → Fr h₀ env.locals h (FRP m₀ U p tp .none) → News h₀ env.locals h (news ++ own) →
      wpAny (model prog w) A (assign target env (.ref a)) (fun _ s₃ => wpAny (model prog w) A (execs body env) (InvPostG h₀ env.locals (JNo (l, listOf vs.toArray nn) news m₀ (p - y)) own { s with heap := h, toks := tk } Q) E s₃) E { s with heap := h, toks := tk })
    (at_ : ∀ a y t u p tp (U : Str → Option Value) h tk own, p < y → p + 1 = d → (a, tup2 k y t u) ∈ news ++ own → OwnOff own (news.map (·.1)) → Fr h₀ env.locals h (FRP m₀ U p tp .none) → News h₀ env.locals h (news ++ own) →
      wpAny (model prog w) A (assign target env (.ref a)) (fun _ s₃ => wpAny (model prog w) A (execs body env) (InvPostG h₀ env.locals (JYes (l, listOf vs.toArray nn) news m₀ k d (p - y)) own { s with heap := h, toks := tk } Q) E s₃) E { s with heap := h, toks := tk })
    (after : ∀ a x y t u D t₁ t₂ p tp (U : Str → Option Value) h tk own, (a, tup2 x y t u) ∈ (D, tup2 k d t₁ t₂) :: (news ++ own) → OwnOff own (news.map (·.1)) → (∀ p ∈ own, p.1 ≠ D) → Fr h₀ env.locals h (FRP m₀ U p tp (.ref D)) → News h₀ env.locals h ((D, tup2 k d t₁ t₂) :: (news ++ own)) →
      wpAny (model prog w) A (assign target env (.ref a)) (fun _ s₃ => wpAny (model prog w) A (execs body env) (InvPostG h₀ env.locals (JYes (l, listOf vs.toArray nn) news m₀ k d (p - y)) own { s with heap := h, toks := tk } Q) E s₃) E { s with heap := h, toks := tk })
    (done : ∀ D t₁ t₂ p tp (U : Str → Option Value) h tk, Fr h₀ env.locals h (FRP m₀ U p tp (.ref D)) → News h₀ env.locals h ((D, tup2 k d t₁ t₂) :: news) → Q .next { s with heap := h, toks := tk }) :
    wpAny (model prog w) A (pyIter (.ref l)) (fun it s₂ => TurnsAt prog w A h₀ env target body Q E it s₂) E s := by
  obtain ⟨h1, h2, h3, h4, h5, h6, h7, h8, h9⟩ := hD
  obtain ⟨i₀, hi, hpre⟩ := off_sum h5 h6
  exact due_loop hh hl hps F N hp₀ hdu (mons_nn Y) hi (by omega) (by omega) (by omega) before at_ after done
end
end Mine

namespace Mine
open PySem PySem.Spec PySem.Calls PySem.W PyProof.Rows
set_option maxRecDepth 100000

/-- law 2's rule of a year -/
def ruleI (y D P : Int) : Int :=
  if P < 18 * 1080 then (if D.fmod 7 = 1 ∧ 9 * 1080 + 204 ≤ P ∧ lp y = false then 2 else if D.fmod 7 = 0 ∧ 15 * 1080 + 589 ≤ P ∧ lp (y - 1) = true then 1 else 0) else 0
theorem rule_d2 (y : Int) : ruleI y (pt y / 25920) (pt y % 25920) = d2 y := by
  unfold ruleI
  rw [Int.fmod_eq_emod_of_nonneg _ (by decide)]
  rcases d2_eq y with ⟨h, e⟩ | ⟨h, e⟩ | ⟨h1, h2, e⟩
  · rw [e, if_pos (by have := h.1; omega), if_pos ⟨h.2.1, by have := h.2.2.1; omega, h.2.2.2⟩]
  · rw [e, if_pos (by have := h.1; omega), if_neg (fun q => by have := q.1; have := h.2.1; omega), if_pos ⟨h.2.1, by have := h.2.2.1; omega, h.2.2.2⟩]
  · rw [e]
    split
    · rw [if_neg (fun q => h1 ⟨by omega, q.1, by omega, q.2.2⟩), if_neg (fun q => h2 ⟨by omega, q.1, by omega, q.2.2⟩)]
    · rfl
/-- law 2's new year -/
theorem ny_rule (y : Int) : lawH (if 18 * 1080 ≤ pt y % 25920 ∨ 0 < d2 y then pt y / 25920 + 1 else pt y / 25920) = ny y := by
  rw [lawH_eq]
  have e : (if 18 * 1080 ≤ pt y % 25920 ∨ 0 < d2 y then pt y / 25920 + 1 else pt y / 25920) = lawD (pt y / 25920) (pt y % 25920) (lp y) (lp (y - 1)) := by
    unfold lawD
    rw [Int.fmod_eq_emod_of_nonneg _ (by decide)]
    have b := d2_bd y
    rcases d2_eq y with ⟨h, e⟩ | ⟨h, e⟩ | ⟨h1, h2, e⟩
    · rw [if_pos (.inr (by omega)), if_neg (by have := h.1; omega), if_pos ⟨h.2.1, by have := h.2.2.1; omega, h.2.2.2⟩]
    · rw [if_pos (.inr (by omega)), if_neg (by have := h.1; omega), if_neg (fun q => by have := q.1; have := h.2.1; omega), if_pos ⟨h.2.1, by have := h.2.2.1; omega, h.2.2.2⟩]
    · by_cases c : 18 * 1080 ≤ pt y % 25920
      · rw [if_pos (.inl c), if_pos c]
      · rw [if_neg (by rw [e]; omega), if_neg c, if_neg (fun q => h1 ⟨by omega, q.1, by omega, q.2.2⟩), if_neg (fun q => h2 ⟨by omega, q.1, by omega, q.2.2⟩)]
  rw [e, lawD_pt]
/-- a leap year has no rule -/
theorem d2_leap {y : Int} (h : lp y = true) : d2 y = 0 := by
  rcases d2_eq y with ⟨q, e⟩ | ⟨q, e⟩ | ⟨_, _, e⟩
  · have := q.2.2.2; rw [h] at this; cases this
  · exact absurd ⟨q.2.2.2, by rw [Int.sub_add_cancel]; exact h⟩ (no_two (y := y - 1))
  · exact e
/-- among nineteen years in a row is a leap year -/
theorem leap_near (y : Int) : ∃ k : Nat, k < 19 ∧ lp (y + k) = true := by
  have q : y % 19 = 0 ∨ y % 19 = 1 ∨ y % 19 = 2 ∨ y % 19 = 3 ∨ y % 19 = 4 ∨ y % 19 = 5 ∨ y % 19 = 6 ∨ y % 19 = 7 ∨ y % 19 = 8 ∨ y % 19 = 9 ∨ y % 19 = 10 ∨ y % 19 = 11 ∨ y % 19 = 12 ∨ y % 19 = 13 ∨ y % 19 = 14 ∨ y % 19 = 15 ∨ y % 19 = 16 ∨ y % 19 = 17 ∨ y % 19 = 18 := by omega
  unfold lp
  -- (7 y + 1) % 19 < 7 at y % 19 ∈ {0, 3, 6, 8, 11, 14, 17}
  rcases q with q | q | q | q | q | q | q | q | q | q | q | q | q | q | q | q | q | q | q
  · exact ⟨0, by omega, decide_eq_true (by omega)⟩
  · exact ⟨2, by omega, decide_eq_true (by omega)⟩
  · exact ⟨1, by omega, decide_eq_true (by omega)⟩
  · exact ⟨0, by omega, decide_eq_true (by omega)⟩
  · exact ⟨2, by omega, decide_eq_true (by omega)⟩
  · exact ⟨1, by omega, decide_eq_true (by omega)⟩
  · exact ⟨0, by omega, decide_eq_true (by omega)⟩
  · exact ⟨1, by omega, decide_eq_true (by omega)⟩
  · exact ⟨0, by omega, decide_eq_true (by omega)⟩
  · exact ⟨2, by omega, decide_eq_true (by omega)⟩
  · exact ⟨1, by omega, decide_eq_true (by omega)⟩
  · exact ⟨0, by omega, decide_eq_true (by omega)⟩
  · exact ⟨2, by omega, decide_eq_true (by omega)⟩
  · exact ⟨1, by omega, decide_eq_true (by omega)⟩
  · exact ⟨0, by omega, decide_eq_true (by omega)⟩
  · exact ⟨2, by omega, decide_eq_true (by omega)⟩
  · exact ⟨1, by omega, decide_eq_true (by omega)⟩
  · exact ⟨0, by omega, decide_eq_true (by omega)⟩
  · exact ⟨1, by omega, decide_eq_true (by omega)⟩
/-- one year on -/
theorem pt_next (y : Int) : pt (y + 1) = pt y + (if lp y = true then 13 else 12) * 765433 := by
  rcases mo_next y with ⟨h, e⟩ | ⟨h, e⟩
  · unfold pt; rw [e, h]; simp; omega
  · unfold pt; rw [e, h]; simp; omega

abbrev RetQ (h₀ : Heap) (L : Addr) (m : Str → Option Value) (news : List (Addr × Obj)) (s : Shared) (Q : Value → Shared → Prop) (y : Int) : Prop :=
  ∀ (t u : Tok) (a : Addr) (h' : Heap) (tk' : Nat), Fr h₀ L h' m → News h₀ L h' ((a, tup2 (pt y / 25920) (pt y % 25920) t u) :: news) → Q (.ref a) { s with heap := h', toks := tk' }
theorem retQ {h₀ h' : Heap} {L : Addr} {m : Str → Option Value} {news objs : List (Addr × Obj)} {s : Shared} {Q : Value → Shared → Prop} {tk' : Nat} {y a b : Int} {t u : Tok} {l : Addr} (hret : RetQ h₀ L m news s Q y) (N : News h₀ L s.heap news) (F : Fr h₀ L h' m) (M : News h₀ L h' objs) (k : Keeps s.heap h') (hl : (l, tup2 a b t u) ∈ objs) (ea : a = pt y / 25920) (eb : b = pt y % 25920) : Q (.ref l) { s with heap := h', toks := tk' } := by
  subst ea; subst eb
  refine hret t u l h' tk' F fun p hp => ?_
  rcases List.mem_cons.mp hp with rfl | hp
  · exact M _ hl
  · exact news_keep N k p hp
theorem moon_eq (y : Int) : (5 * 1080 + 204 + (235 * (y - 1).fdiv 19 + 12 * (y - 1).fmod 19 + cntL ((y - 1).fmod 19)) * (29 * 25920 + 12 * 1080 + 793)).fdiv 25920 = pt y / 25920 ∧ (5 * 1080 + 204 + (235 * (y - 1).fdiv 19 + 12 * (y - 1).fmod 19 + cntL ((y - 1).fmod 19)) * (29 * 25920 + 12 * 1080 + 793)).fmod 25920 = pt y % 25920 := by
  rw [totX, Int.fmod_eq_emod_of_nonneg _ (by decide), Int.fdiv_eq_ediv_of_nonneg _ (by decide)]
  exact ⟨rfl, rfl⟩
end Mine

namespace Mine
open PySem PySem.Spec PySem.Calls PySem.W PyProof.Rows
set_option maxRecDepth 100000

/-- the rules of the first n years from b on -/
def rls (b : Int) (n : Nat) : List Int := (List.range n).map fun (k : Nat) => d2 (b + (k : Int))
theorem rls_succ (b : Int) (n : Nat) : rls b (n + 1) = rls b n ++ [d2 (b + (n : Int))] := by
  unfold rls; rw [List.range_succ, List.map_append]; rfl
theorem rls_len (b : Int) (n : Nat) : (rls b n).length = n := by unfold rls; simp
theorem rls_get {b : Int} {n k : Nat} (h : k < n) : (rls b n)[k]? = some (d2 (b + (k : Int))) := by unfold rls; simp [h]

abbrev sDay : Str := Str.ofString "day"
abbrev sParts : Str := Str.ofString "parts"
abbrev sMore : Str := Str.ofString "more"
abbrev sYear : Str := Str.ofString "year"
def FRY (m₀ U : Str → Option Value) (d : Int) (td : Tok) (p : Int) (tp : Tok) : Str → Option Value := fun z =>
  if z = sDay then some (.int d td) else if z = sParts then some (.int p tp) else if z = sMore then U z else if z = sYear then U z else m₀ z
def SameY (m₀ m : Str → Option Value) : Prop := ∀ z, z ≠ sDay → z ≠ sParts → z ≠ sMore → z ≠ sYear → m z = m₀ z
theorem fry_eq {m₀ m : Str → Option Value} {d p : Int} {td tp : Tok} (h1 : m sDay = some (.int d td)) (h2 : m sParts = some (.int p tp)) (h3 : SameY m₀ m) : FRY m₀ m d td p tp = m := by
  funext z
  unfold FRY
  by_cases c1 : z = sDay
  · rw [if_pos c1, c1, h1]
  · rw [if_neg c1]
    by_cases c2 : z = sParts
    · rw [if_pos c2, c2, h2]
    · rw [if_neg c2]
      by_cases c3 : z = sMore
      · rw [if_pos c3]
      · rw [if_neg c3]
        by_cases c4 : z = sYear
        · rw [if_pos c4]
        · rw [if_neg c4]; exact (h3 z c1 c2 c3 c4).symm
structure Base (b : Int) : Prop where
structure Want (z : Int) : Prop where
def JR (cR rl : Addr) (oR : Obj) (keep : List (Addr × Obj)) (b : Int) (m₀ : Str → Option Value) (i : Nat) (m : Str → Option Value) (nx : List (Addr × Obj)) : Prop :=
  ∃ (vs : List Value) (nn : Nat) (td tp : Tok), nx = (cR, oR) :: (rl, listOf vs.toArray nn) :: keep ∧ IntsAre vs (rls b i) ∧ m sDay = some (.int (pt (b + (i : Int)) / 25920) td) ∧ m sParts = some (.int (pt (b + (i : Int)) % 25920) tp) ∧ SameY m₀ m
theorem endR {cR rl L : Addr} {oR : Obj} {keep own news' : List (Addr × Obj)} {b y D P z : Int} {m₀ m' : Str → Option Value} {i : Nat} {its : Array Value} {vs : List Value} {nn : Nat} {td tp tz : Tok} {h₀ h' : Heap} {tk : Nat} {s₁ : Shared}
    (F : Fr h₀ L h' m') (N : News h₀ L h' news') (hR : (cR, oR) ∈ news') (hl : (rl, listOf its nn) ∈ news') (hv : IntsAre vs (rls b i)) (hits : its = vs.toArray.push (.int z tz)) (hz : z = d2 (b + (i : Int)))
    (hd : m' sDay = some (.int D td)) (hD : D = pt (b + (i : Int) + 1) / 25920) (hp : m' sParts = some (.int P tp)) (hP : P = pt (b + (i : Int) + 1) % 25920) (hr : SameY m₀ m')
    (ho : OwnOff own (cR :: rl :: keep.map (·.1))) (hk : ∀ p ∈ keep, p ∈ news') (hw : ∀ p ∈ own, p ∈ news') : InvEndG h₀ L (JR cR rl oR keep b m₀ (i + 1)) own s₁ { s₁ with heap := h', toks := tk } := by
  subst hits; subst hz; subst hD; subst hP
  have e : (b + (i : Int) + 1) = b + ((i + 1 : Nat) : Int) := by omega
  rw [e] at hd hp
  have e2 : vs.toArray.push (Value.int (d2 (b + (i : Int))) tz) = (vs ++ [Value.int (d2 (b + (i : Int))) tz]).toArray := by simp
  rw [e2] at hl
  refine InvEndG.intro (nx := (cR, oR) :: (rl, listOf (vs ++ [Value.int (d2 (b + (i : Int))) tz]).toArray nn) :: keep) F N ⟨_, nn, td, tp, rfl, ?_, hd, hp, hr⟩ ho ?_ hw
  · rw [rls_succ]; exact hv.append (.cons _ _ .nil)
  · intro p hp
    rcases List.mem_cons.mp hp with rfl | hp
    · exact hR
    · rcases List.mem_cons.mp hp with rfl | hp
      · exact hl
      · exact hk p hp
section
variable {prog : Program} {w : World} {A : Around} {E : Value → Shared → Prop} {s : Shared} {env : Env} {h₀ : Heap} {body : List Stmt} {Q : Flow → Shared → Prop}
/-- the law's loop over two hundred years -/
theorem rules_loop {r cR rl a1 a2 a3 : Addr} {oR o1 o2 o3 : Obj} {b b' : Int} {t₀ u₀ v₀ td₀ tp₀ : Tok} {m₀ : Str → Option Value} {news : List (Addr × Obj)} {nn₀ : Nat}
    (hh : A.handled = none) (hr : IsRange s.heap r b b' 1 t₀ u₀ v₀) (hb : b' = b + 200) (hsmall : Builtin.Range.small b b' 1 = true)
    (_hcR : env.cells.lookup (Str.ofString "rules") = some cR) (hmR : (cR, oR) ∈ news) (_hdR : oR.data = .cell (some (.ref rl))) (hml : (rl, listOf [].toArray nn₀) ∈ news) (_hc1 : env.cells.lookup (Str.ofString "base") = some a1) (hm1 : (a1, o1) ∈ news) (_hc2 : env.cells.lookup (Str.ofString "wanted") = some a2) (hm2 : (a2, o2) ∈ news) (_hc3 : m₀ (Str.ofString "numbers") = some (.ref a3)) (hm3 : (a3, o3) ∈ news)
    (F : Fr h₀ env.locals s.heap m₀) (N : News h₀ env.locals s.heap news)
    (hday : m₀ sDay = some (.int (pt b / 25920) td₀)) (hparts : m₀ sParts = some (.int (pt b % 25920) tp₀))
    (turn : ∀ (i : Nat) y t vs nn td tp (U : Str → Option Value) h tk own, y = b + (i : Int) → i < 200 → pt (b + (i : Int) + 1) = pt y + (if lp y = true then 13 else 12) * 765433 → 0 ≤ pt y % 25920 → pt y % 25920 < 25920 → IntsAre vs (rls b i) → vs.length = i → OwnOff own [cR, rl, a1, a2, a3] → (∀ p ∈ own, p.1 ≠ rl) →
      Fr h₀ env.locals h (fun z => if z = sYear then some (.int y t) else FRY m₀ U (pt y / 25920) td (pt y % 25920) tp z) → News h₀ env.locals h ((cR, oR) :: (rl, listOf vs.toArray nn) :: (a1, o1) :: (a2, o2) :: (a3, o3) :: own) →
      wpAny (model prog w) A (execs body env) (InvPostG h₀ env.locals (JR cR rl oR [(a1, o1), (a2, o2), (a3, o3)] b m₀ (i + 1)) own { s with heap := h, toks := tk } Q) E { s with heap := h, toks := tk })
    (done : ∀ vs nn td tp (D P : Int) (U : Str → Option Value) h tk, Base b → IntsAre vs (rls b 200) → vs.length = 200 → Fr h₀ env.locals h (FRY m₀ U D td P tp) → News h₀ env.locals h [(cR, oR), (rl, listOf vs.toArray nn), (a1, o1), (a2, o2), (a3, o3)] → Q .next { s with heap := h, toks := tk }) :
    wpAny (model prog w) A (pyIter (.ref r)) (fun it s₂ => LoopAtV prog w A h₀ env sYear body Q E it s₂) E s := by
  subst hb
  have hsz := rangeSize_nat b (b + 200)
  have hn : (b + 200 - b).toNat = 200 := by omega
  rw [hn] at hsz
  refine wpAny_pyIter_range hr hsmall ?_
  have W : Walks prog w A s.heap.objs.size [s.heap.objs.size] [s.heap.objs.size] 200 (fun i v => i < 200 ∧ ∃ t, v = .int (b + i * 1) t)
      (fun i h => IsRangeIter h s.heap.objs.size (b + (i : Nat) * 1) (((200 : Nat) : Int) - (i : Nat)) 1) := (Walks.range hh _ b 1 200).bound
  have N' : News h₀ env.locals s.heap [(cR, oR), (rl, listOf [].toArray nn₀), (a1, o1), (a2, o2), (a3, o3)] := fun p hp => by
    simp only [List.mem_cons, List.not_mem_nil, or_false] at hp
    rcases hp with rfl | rfl | rfl | rfl | rfl
    · exact N _ hmR
    · exact N _ hml
    · exact N _ hm1
    · exact N _ hm2
    · exact N _ hm3
  refine kdr_loop (news := [(cR, oR), (rl, listOf [].toArray nn₀), (a1, o1), (a2, o2), (a3, o3)]) (fun i m nx => JR cR rl oR [(a1, o1), (a2, o2), (a3, o3)] b m₀ i m nx) W (fun _ h => h) (fun _ h => h) ?_ ?_ ?_ ?_ (by show IsRangeIter _ _ _ _ _; rw [hsz]; simpa using Heap.get?_push_size _ rfl) (F.push _) (fun p hp => ⟨Heap.get?_push_of_some _ (N' p hp).1, (N' p hp).2⟩) ⟨[], nn₀, td₀, tp₀, rfl, .nil, by simpa using hday, by simpa using hparts, fun _ _ _ _ _ => rfl⟩ ?_ ?_
  · intro i h hi b hb
    rw [List.mem_singleton.mp hb]
    exact ⟨_, hi⟩
  · intro hm
    exact absurd F.ns.lt ((List.mem_singleton.mp hm) ▸ Nat.lt_irrefl _)
  · intro b hb
    rw [List.mem_singleton.mp hb]
    exact next_is_new F
  · intro p hp hI
    exact absurd (Heap.lt_size (N' p hp).1) ((List.mem_singleton.mp hI) ▸ Nat.lt_irrefl _)
  · rintro i v m₁ nx h tk own hi ⟨_, t, rfl⟩ hoff ⟨vs, nn, td, tp, rfl, hv, h1, h2, h3⟩ F₁ N₁
    have e1 : b + (i : Int) * 1 = b + (i : Int) := by omega
    rw [e1] at F₁
    have hoff' : OwnOff own [cR, rl, a1, a2, a3] := hoff
    have e : (fun z => if z = sYear then some (Value.int (b + (i : Int)) t) else m₁ z) = fun z => if z = sYear then some (Value.int (b + (i : Int)) t) else FRY m₀ m₁ (pt (b + (i : Int)) / 25920) td (pt (b + (i : Int)) % 25920) tp z := by
      rw [fry_eq h1 h2 h3]
    rw [e] at F₁
    exact turn i _ t vs nn td tp m₁ h tk own rfl hi (pt_next _) (Int.emod_nonneg _ (by decide)) (Int.emod_lt_of_pos _ (by decide)) hv (by rw [hv.length, rls_len]) hoff' (fun p hp => hoff' p hp rl (by simp)) F₁ N₁
  · rintro m₁ nx h tk ⟨vs, nn, td, tp, rfl, hv, h1, h2, h3⟩ F₁ N₁
    exact done vs nn td tp _ _ m₁ h tk Base.mk hv (by rw [hv.length, rls_len]) (by rw [fry_eq h1 h2 h3]; exact F₁) N₁
end

/-- the years of the two hundred whose rule is w -/
def rare (b w : Int) : List Int := (rangeKs 0 200).foldl (fun l k => if d2 (b + k) = w then l ++ [b + k] else l) []
theorem foldl_rare (b w : Int) : ∀ (ks l : List Int), ks.foldl (fun l k => if d2 (b + k) = w then l ++ [b + k] else l) l = l ++ (ks.filter fun k => decide (d2 (b + k) = w)).map (fun k => b + k)
  | [], l => by simp
  | k :: ks, l => by
    rw [List.foldl_cons, foldl_rare b w ks]
    by_cases h : d2 (b + k) = w
    · simp [h]
    · simp [h]
theorem rare_eq (b w : Int) : rare b w = ((rangeKs 0 200).filter fun k => decide (d2 (b + k) = w)).map (fun k => b + k) := by unfold rare; rw [foldl_rare, List.nil_append]
theorem rare_mem {b w x : Int} (h : x ∈ rare b w) : b ≤ x ∧ x < b + 200 ∧ d2 x = w := by
  rw [rare_eq] at h
  obtain ⟨k, hk, rfl⟩ := List.mem_map.mp h
  obtain ⟨h1, h2⟩ := List.mem_filter.mp hk
  have h3 := mem_rangeKs h1
  exact ⟨by omega, by have := h3.2; omega, of_decide_eq_true h2⟩
theorem plain_ne (b : Int) : rare b 0 ≠ [] := by
  obtain ⟨k, hk, hl⟩ := leap_near b
  have hm : b + (k : Int) ∈ rare b 0 := by
    rw [rare_eq]
    refine List.mem_map.mpr ⟨(k : Int), List.mem_filter.mpr ⟨?_, decide_eq_true (d2_leap hl)⟩, rfl⟩
    unfold rangeKs
    exact List.mem_map.mpr ⟨k, List.mem_range.mpr (by omega), by omega⟩
  intro e
  rw [e] at hm
  cases hm

section
variable {prog : Program} {w : World} {A : Around} {E : Value → Shared → Prop} {s : Shared} {h₀ : Heap} {L : Addr} {m : Str → Option Value} {news : List (Addr × Obj)} {Q : Value → Shared → Prop} {value slice : Expr} {l : Addr} {vs : List Value} {nn : Nat} {k b y n : Int} {t u : Tok}
theorem item_rules (N : News h₀ L s.heap news) (hm : (l, listOf vs.toArray nn) ∈ news) (hv : IntsAre vs (rls b 200)) (h0 : 0 ≤ k) (h1 : k < 200) (h : ∀ t, Q (.int (d2 (b + k)) t) s)
    (hs : subscripted slice false (.ref l) (.int k u) = operate [.ref l, .int k u] (getItem (.ref l) (.int k u)) := by with_unfolding_all rfl) : wpAny (model prog w) A (subscriptTail value slice (.ref l) (.int k u)) Q E s := by
  have hl : s.heap.IsList l vs.toArray := ⟨_, (N _ hm).1, rfl, nn, rfl⟩
  have hg := rls_get (b := b) (n := 200) (k := k.toNat) (by omega)
  have e : b + (k.toNat : Int) = b + k := by omega
  rw [e] at hg
  obtain ⟨t, ht⟩ := hv.get _ _ hg
  exact tail_any hl.typeIs slot_list_getitem.lookup (wpAny_getItem_list hl h0 (by omega) (by simpa using ht) (h t)) hs
theorem item_year (N : News h₀ L s.heap news) (hm : (l, listOf vs.toArray nn) ∈ news) (hv : IntsAre vs (rls b 200)) (h0 : b ≤ y) (h1 : y < b + 200) (h : ∀ t, Q (.int (d2 y) t) s)
    (hs : subscripted slice false (.ref l) (.int (y - b) u) = operate [.ref l, .int (y - b) u] (getItem (.ref l) (.int (y - b) u)) := by with_unfolding_all rfl) : wpAny (model prog w) A (subscriptTail value slice (.ref l) (.int (y - b) u)) Q E s := by
  refine item_rules N hm hv (by omega) (by omega) (fun t => ?_) hs
  have e : b + (y - b) = y := by omega
  rw [e]; exact h t
theorem item_rare {z : Int} (N : News h₀ L s.heap news) (hm : (l, listOf vs.toArray nn) ∈ news) (hv : IntsAre vs (rare b z)) (h7 : vs.length ≤ 200) (h0 : 0 ≤ k) (h1 : k < (vs.length : Int)) (h : ∀ x t, b ≤ x → x < b + 200 → d2 x = z → Q (.int x t) s)
    (hs : subscripted slice false (.ref l) (.int k u) = operate [.ref l, .int k u] (getItem (.ref l) (.int k u)) := by with_unfolding_all rfl) : wpAny (model prog w) A (subscriptTail value slice (.ref l) (.int k u)) Q E s := by
  have hl : s.heap.IsList l vs.toArray := ⟨_, (N _ hm).1, rfl, nn, rfl⟩
  have hlt : k.toNat < vs.length := by omega
  obtain ⟨x, t, e, hx⟩ := hv.at k.toNat (vs[k.toNat]) (by simp [hlt])
  have hm' := rare_mem (List.mem_of_getElem? hx)
  exact tail_any hl.typeIs slot_list_getitem.lookup (wpAny_getItem_list hl h0 (by omega) (x := .int x t) (by simpa [hlt] using e) (h x t hm'.1 hm'.2.1 hm'.2.2)) hs
theorem item_plain (N : News h₀ L s.heap news) (hm : (l, listOf vs.toArray nn) ∈ news) (hv : IntsAre vs (rare b 0)) (h7 : vs.length ≤ 200) (h : ∀ x t, b ≤ x → x < b + 200 → d2 x = 0 → Q (.int x t) s)
    (hs : subscripted slice false (.ref l) (.int (-1) u) = operate [.ref l, .int (-1) u] (getItem (.ref l) (.int (-1) u)) := by with_unfolding_all rfl) : wpAny (model prog w) A (subscriptTail value slice (.ref l) (.int (-1) u)) Q E s := by
  have hl : s.heap.IsList l vs.toArray := ⟨_, (N _ hm).1, rfl, nn, rfl⟩
  have hpos : 0 < vs.length := by
    rw [hv.length]
    exact List.length_pos_iff.mpr (plain_ne b)
  have hlt : vs.length - 1 < vs.length := by omega
  obtain ⟨x, t, e, hx⟩ := hv.at (vs.length - 1) (vs[vs.length - 1]) (by simp [hlt])
  have hm' := rare_mem (List.mem_of_getElem? hx)
  have hidx : ((-1 : Int) + (vs.toArray.size : Int)).toNat = vs.length - 1 := by rw [List.size_toArray]; omega
  exact subscriptTail_builtinR hl.typeIs slot_list_getitem.lookup (wpAny_getItem_list_neg (x := .int x t) (Q := fun r s' => r = _ ∧ Q r s') hl (by decide) (by rw [List.size_toArray]; omega) (by decide) (by rw [hidx]; simpa [hlt] using e) ⟨rfl, h x t hm'.1 hm'.2.1 hm'.2.2⟩) hs
theorem len_rare {z : Int} (N : News h₀ L s.heap news) (hm : (l, listOf vs.toArray nn) ∈ news) (_hv : IntsAre vs (rare b z)) (h7 : vs.length ≤ 200)
    (h : Q (.int (vs.length : Int) (s.toks + 1)) { s with toks := s.toks + 1 + 1 }) : wpAny (model prog w) A (call (.builtin "len") [.ref l]) Q E s :=
  len_list (items := vs.toArray) ⟨_, (N _ hm).1, rfl, _, rfl⟩ (by rw [List.size_toArray]; omega) (by rw [List.size_toArray]; exact h)
theorem mod_len {j : Int} (hj : 0 < j) (h : ∀ z, 0 ≤ z → z < j → Q (.int z s.toks) { s with toks := s.toks + 1 }) : wpAny (model prog w) A (binaryOp .Mod (.int n t) (.int j u)) Q E s := by
  refine mod_int' (by omega) (h _ ?_ ?_)
  · rw [Int.fmod_eq_emod_of_nonneg _ (by omega)]; exact Int.emod_nonneg _ (by omega)
  · rw [Int.fmod_eq_emod_of_nonneg _ (by omega)]; exact Int.emod_lt_of_pos _ hj
theorem len_pos {z : Int} (hv : IntsAre vs (rare b z)) (hne : rare b z ≠ []) : 0 < (vs.length : Int) := by
  have := List.length_pos_iff.mpr hne
  rw [hv.length]; omega
end
section
variable {prog : Program} {w : World} {A : Around} {h₀ : Heap} {L : Addr} {m : Str → Option Value} {env : Env} {ct elt : Expr} {x : Str} {scope : Scope} {cl : List (Str × Addr)} {s : Shared} {S : List (Addr × Obj) → Prop} {Fin : List Value → List (Addr × Obj) → Prop} {news : List (Addr × Obj)}
/-- «[base + k for k in range(200) if rules[k] == wanted]» -/
theorem kci_rules {b z : Int} (_hB : Base b)
    (turn : ∀ k t I oI C oC D m₂ ys l h tk (E' : Value → Shared → Prop), 0 ≤ k → k < 200 → IntsAre ys l → LCg.NsObj oC m₂ → m₂ x = some (.int k t) → Fr h₀ L h m → News h₀ L h ((I, oI) :: (C, oC) :: (D, LCg.lst ys) :: news) → LCg.Off3 I C D news → ((@Ne Nat I C) ∧ (@Ne Nat I D) ∧ (@Ne Nat C D)) →
      wpAny (model prog w) A (isTrue ct (compEnvC scope cl C env) (eval ct (compEnvC scope cl C env))) (fun b' s' => if b' = true then wpAny (model prog w) A (eval elt (compEnvC scope cl C env)) (LCg.CompEnd h₀ L m { s with heap := h, toks := tk } I oI C oC D (LCg.lst ys) S (fun y news' => KCiEl news l (if d2 (b + k) = z then l ++ [b + k] else l) y news')) E' s'
        else LCg.CompEnd h₀ L m { s with heap := h, toks := tk } I oI C oC D (LCg.lst ys) S (fun _ news' => KCiNo news l (if d2 (b + k) = z then l ++ [b + k] else l) news') Value.none s') E' { s with heap := h, toks := tk })
    (fin : ∀ ys : List Value, IntsAre ys (rare b z) → ys.length ≤ 200 → Fin ys news) : LCt.CompRestT prog w A h₀ L m env ct elt x scope cl s S (fun i v => ∃ t, v = .int (0 + (i : Int)) t) Fin 200 0 [] news := by
  refine kci_range (fun l k => if d2 (b + k) = z then l ++ [b + k] else l) (fun k t I oI C oC D m₂ ys l h tk E' h1 h2 h3 h4 h5 h6 h7 h8 h9 _ => turn k t I oI C oC D m₂ ys l h tk E' h1 (by omega) h3 h4 h5 h6 h7 h8 h9) (fun ys hy hl => fin ys hy hl) (fun l k => ?_)
  show (if d2 (b + k) = z then l ++ [b + k] else l).length ≤ l.length + 1
  split <;> simp
end

theorem sm_lo (y a : Int) : ∀ n : Nat, 29 * (n : Int) ≤ sm y a n
  | 0 => by simp [sm]
  | n + 1 => by
    have := sm_lo y a n
    have := ml_bd y (a + n)
    unfold sm; omega
theorem off_lo (y : Int) {k : Int} (h1 : 1 ≤ k) (h2 : k ≤ 13) (h : k ≠ 7) : 29 ≤ off y k := by
  have hy := ym_bd y
  unfold off
  split
  · have := sm_lo y 7 (ym y + 1 - 7).toNat
    have := sm_bd y 1 (k - 1).toNat
    omega
  · have := sm_lo y 7 (k - 7).toNat
    omega
theorem ny_next {y : Int} (h0 : 0 ≤ y) (h1 : y ≤ 19999998) : ny y + 300 ≤ ny (y + 1) := by
  have := yd_bd h0 h1
  unfold yd at this; omega
theorem ny_mono {a : Int} (h0 : 0 ≤ a) : ∀ (n : Nat), a + (n : Int) ≤ 19999998 → ny a + 300 * (n : Int) ≤ ny (a + (n : Int))
  | 0, _ => by simp
  | n + 1, h => by
    have h1 := ny_mono h0 n (by omega)
    have h2 := ny_next (y := a + (n : Int)) (by omega) (by omega)
    have e : a + ((n + 1 : Nat) : Int) = a + (n : Int) + 1 := by omega
    rw [e]
    omega
theorem ny_le {a c : Int} (h0 : 0 ≤ a) (h : a ≤ c) (h1 : c ≤ 19999998) : ny a + 300 * (c - a) ≤ ny c := by
  have := ny_mono h0 (c - a).toNat (by omega)
  have e : a + ((c - a).toNat : Int) = c := by omega
  rw [e] at this
  omega
/-- the year of a day -/
theorem year_of {n Y k d y : Int} (D : DateOf n Y k d) (h0 : 1 ≤ y) (h1 : y ≤ 11000000) (h2 : 347998 + ny y ≤ n) (h3 : n < 347998 + ny (y + 1)) : Y = y := by
  obtain ⟨a1, a2, a3, a4, _⟩ := D
  rcases Int.lt_trichotomy Y y with h | h | h
  · have := ny_le (a := Y + 1) (c := y) (by omega) (by omega) (by omega)
    omega
  · exact h
  · have := ny_le (a := y + 1) (c := Y) (by omega) (by omega) (by omega)
    omega
theorem date_first {Y k d y : Int} (D : DateOf (347998 + ny y) Y k d) (h0 : 1 ≤ y) (h1 : y ≤ 11000000) : Y = y ∧ k = 7 ∧ d = 1 := by
  have hn := ny_next (y := y) (by omega) (by omega)
  have hY := year_of D h0 h1 (by omega) (by omega)
  subst hY
  obtain ⟨_, _, _, _, b1, b2, b3, b4, b5⟩ := D
  have hy := ym_bd Y
  have hk : k = 7 := by
    rcases Int.lt_or_gt_of_ne (a := k) (b := 7) |> fun f => (Classical.em (k = 7)).imp_right f with h | h | h
    · exact h
    · have := off_lo Y (k := k) (by omega) (by omega) (by omega); omega
    · have := off_lo Y (k := k) (by omega) (by omega) (by omega); omega
  subst hk
  rw [off_7] at b3
  exact ⟨rfl, rfl, by omega⟩
theorem off_up1 (y : Int) {j : Int} (h : 1 ≤ j) : ∀ n : Nat, j + (n : Int) ≤ 6 → off y j ≤ off y (j + (n : Int))
  | 0, _ => by simp
  | n + 1, hn => by
    have h1 := off_up1 y h n (by omega)
    have h2 := off_s1 y (k := j + (n : Int)) (by omega) (by omega)
    have h3 := ml_bd y (j + (n : Int))
    have e : j + ((n + 1 : Nat) : Int) = j + (n : Int) + 1 := by omega
    rw [e]; omega
theorem off_up7 (y : Int) {j : Int} (h : 7 ≤ j) : ∀ n : Nat, off y j ≤ off y (j + (n : Int))
  | 0 => by simp
  | n + 1 => by
    have h1 := off_up7 y h n
    have h2 := off_s7 y (k := j + (n : Int)) (by omega)
    have h3 := ml_bd y (j + (n : Int))
    have e : j + ((n + 1 : Nat) : Int) = j + (n : Int) + 1 := by omega
    rw [e]; omega
theorem off_end {y k : Int} (h1 : 1 ≤ k) (h2 : k ≤ ym y) (h : k ≠ 6) : off y k + ml y k ≤ off y 6 := by
  have hy := ym_bd y
  rcases Int.lt_or_le k 6 with c | c
  · have e := off_s1 y (k := k) h1 c
    have u := off_up1 y (j := k + 1) (by omega) (6 - (k + 1)).toNat (by omega)
    have e2 : k + 1 + ((6 - (k + 1)).toNat : Int) = 6 := by omega
    rw [e2] at u
    omega
  · have u1 := off_up1 y (j := 1) (by omega) 5 (by decide)
    have u1' : off y 1 ≤ off y 6 := u1
    have o1 := off_1 y
    have e := off_s7 y (k := k) (by omega)
    have hm := ml_bd y (ym y)
    rcases Int.lt_or_le k (ym y) with c2 | c2
    · have u := off_up7 y (j := k + 1) (by omega) (ym y - (k + 1)).toNat
      have e2 : k + 1 + ((ym y - (k + 1)).toNat : Int) = ym y := by omega
      rw [e2] at u
      omega
    · have e3 : k = ym y := by omega
      rw [e3]; omega
theorem date_last {Y k d y : Int} (D : DateOf (347997 + ny y) Y k d) (h0 : 2 ≤ y) (h1 : y ≤ 11000000) : Y = y - 1 ∧ k = 6 ∧ d = 29 := by
  have hn := ny_next (y := y - 1) (by omega) (by omega)
  rw [Int.sub_add_cancel] at hn
  have hY : Y = y - 1 := year_of D (by omega) (by omega) (by omega) (by rw [Int.sub_add_cancel]; omega)
  subst hY
  obtain ⟨_, _, _, _, b1, b2, b3, b4, b5⟩ := D
  have h6 := off_6 (y := y - 1) (by omega) (by omega)
  have hyd : yd (y - 1) = ny y - ny (y - 1) := by unfold yd; rw [Int.sub_add_cancel]
  have m6 : ml (y - 1) 6 = 29 := (ml_29 (y - 1)).2.2.2.2
  have hk : k = 6 := by
    rcases Classical.em (k = 6) with h | h
    · exact h
    · have := off_end b1 b2 h
      omega
  subst hk
  exact ⟨rfl, rfl, by omega⟩
theorem yd_prev (y : Int) : yd (y - 1) = ny y - ny (y - 1) := by unfold yd; rw [Int.sub_add_cancel]
theorem yd_this (y : Int) : yd y = ny (y + 1) - ny y := rfl
abbrev tup3 (a b c : Int) (t u v : Tok) : Obj := { cls := .type "tuple", data := .seq #[.int a t, .int b u, .int c v] }
abbrev RetT3 (h₀ : Heap) (L : Addr) (m : Str → Option Value) (news : List (Addr × Obj)) (s : Shared) (Q : Value → Shared → Prop) (Y k d : Int) : Prop :=
  ∀ (t u v : Tok) (a : Addr) (h' : Heap) (tk' : Nat), Fr h₀ L h' m → News h₀ L h' ((a, { cls := .type "tuple", data := .seq #[.int Y t, .int k u, .int d v] }) :: news) → (∀ p ∈ news, p.1 < a) → Q (.ref a) { s with heap := h', toks := tk' }
theorem kci_want {prog : Program} {w : World} {A : Around} {h₀ : Heap} {L : Addr} {m : Str → Option Value} {env : Env} {ct elt : Expr} {x : Str} {scope : Scope} {cl : List (Str × Addr)} {s : Shared} {S : List (Addr × Obj) → Prop} {Fin : List Value → List (Addr × Obj) → Prop} {news : List (Addr × Obj)} {b z : Int} (hB : Base b) (_hZ : Want z)
    (turn : ∀ k t I oI C oC D m₂ ys l h tk (E' : Value → Shared → Prop), 0 ≤ k → k < 200 → IntsAre ys l → LCg.NsObj oC m₂ → m₂ x = some (.int k t) → Fr h₀ L h m → News h₀ L h ((I, oI) :: (C, oC) :: (D, LCg.lst ys) :: news) → LCg.Off3 I C D news → ((@Ne Nat I C) ∧ (@Ne Nat I D) ∧ (@Ne Nat C D)) →
      wpAny (model prog w) A (isTrue ct (compEnvC scope cl C env) (eval ct (compEnvC scope cl C env))) (fun b' s' => if b' = true then wpAny (model prog w) A (eval elt (compEnvC scope cl C env)) (LCg.CompEnd h₀ L m { s with heap := h, toks := tk } I oI C oC D (LCg.lst ys) S (fun y news' => KCiEl news l (if d2 (b + k) = z then l ++ [b + k] else l) y news')) E' s'
        else LCg.CompEnd h₀ L m { s with heap := h, toks := tk } I oI C oC D (LCg.lst ys) S (fun _ news' => KCiNo news l (if d2 (b + k) = z then l ++ [b + k] else l) news') Value.none s') E' { s with heap := h, toks := tk })
    (fin : ∀ ys : List Value, IntsAre ys (rare b z) → ys.length ≤ 200 → Fin ys news) : LCt.CompRestT prog w A h₀ L m env ct elt x scope cl s S (fun i v => ∃ t, v = .int (0 + (i : Int)) t) Fin 200 0 [] news := kci_rules hB turn fin
theorem mod_2 {prog : Program} {w : World} {A : Around} {E : Value → Shared → Prop} {s : Shared} {Q : Value → Shared → Prop} {n : Int} {t u : Tok} (h : ∀ z, 0 ≤ z → z < 2 → Want (2 - z) → Q (.int z s.toks) { s with toks := s.toks + 1 }) : wpAny (model prog w) A (binaryOp .Mod (.int n t) (.int 2 u)) Q E s :=
  mod_len (by decide) fun z h0 h1 => h z h0 h1 Want.mk
theorem eq_int_same {prog : Program} {w : World} {A : Around} {E : Value → Shared → Prop} {s : Shared} {Q : Value → Shared → Prop} {n m : Int} {t u : Tok} (e : n = m) (h : Q (.bool true) s) : wpAny (model prog w) A (compareOp .Eq (.int n t) (.int m u)) Q E s := by
  subst e
  exact PyProof.Rows.eq_int (by rw [beq_self_eq_true]; exact h)
theorem turn_D {a c p : Int} (h : p = a + c * 765433) : a / 25920 + (a % 25920 + c * (29 * 25920 + 12 * 1080 + 793)).fdiv 25920 = p / 25920 := by
  rw [Int.fdiv_eq_ediv_of_nonneg _ (by decide)]
  subst h
  have e : c * (29 * 25920 + 12 * 1080 + 793) = c * 765433 := by congr 1
  rw [e]
  generalize c * 765433 = x
  omega
theorem turn_P {a c p : Int} (h : p = a + c * 765433) : (a % 25920 + c * (29 * 25920 + 12 * 1080 + 793)).fmod 25920 = p % 25920 := by
  rw [Int.fmod_eq_emod_of_nonneg _ (by decide)]
  subst h
  have e : c * (29 * 25920 + 12 * 1080 + 793) = c * 765433 := by congr 1
  rw [e]
  generalize c * 765433 = x
  omega
theorem off3 {a1 a2 a3 d : Addr} {o1 o2 o3 : Obj} {own : List (Addr × Obj)} (h1 : a1 ≠ d) (h2 : a2 ≠ d) (h3 : a3 ≠ d) (h : ∀ p ∈ own, p.1 ≠ d) : ∀ p ∈ (a1, o1) :: (a2, o2) :: (a3, o3) :: own, p.1 ≠ d := by
  intro p hp
  rcases List.mem_cons.mp hp with rfl | hp
  · exact h1
  · rcases List.mem_cons.mp hp with rfl | hp
    · exact h2
    · rcases List.mem_cons.mp hp with rfl | hp
      · exact h3
      · exact h p hp
theorem mem3 {a b c : Addr × Obj} {l : List (Addr × Obj)} (h1 : a ∈ l) (h2 : b ∈ l) (h3 : c ∈ l) : ∀ p ∈ [a, b, c], p ∈ l := by
  intro p hp
  simp only [List.mem_cons, List.not_mem_nil, or_false] at hp
  rcases hp with rfl | rfl | rfl
  · exact h1
  · exact h2
  · exact h3
theorem lit_3h : (0x3ff8000000000000 : UInt64) = Hf 3 := by rw [Hf_eq]; decide +kernel
theorem abs_base {prog : Program} {w : World} {A : Around} {E : Value → Shared → Prop} {s : Shared} {Q : Value → Shared → Prop} {n : Int} {t : Tok} (hb : -10000000 < n ∧ n < 10000000) (h : ∀ z u tk, 0 ≤ z → z < 10000000 → Q (.int z u) { s with toks := tk }) : wpAny (model prog w) A (call (.builtin "abs") [.int n t]) Q E s := abs_num hb h
theorem len_pos2 {vs : List Value} {b z : Int} (hv : IntsAre vs (rare b z)) (hne : decide (rare b z = []) = false) : 0 < (vs.length : Int) := len_pos hv (of_decide_eq_false hne)
end Mine

open PySem PySem.W PyProof.Rows
set_option Elab.async false
set_option maxRecDepth 100000 in
set_option maxHeartbeats 8000000 in
open_top Mine.hd for PySem.Challenge.rw_ak5002_02

open PySem PySem.W PyProof.Rows PySem.Spec PySem.Calls
set_option maxRecDepth 100000
namespace Mine
def Claim (w : World) (f : Addr) (D U : Nat) (vs : List Value) (R : Tok → Value) : Prop :=
  ∀ (loose : List Str) (mean : ExcName → Option Value) (mg mb : Str → Option Value) (dp un : Nat) (gd : Option (List Code)) (cn : Str) (cs : Scope) (a : Addr) (ccd : Value) (cl : List (Str × Addr)) (outer : List Env) (A₀ : Around) (base h₀ : Heap) (L : Addr) (m : Str → Option Value) (news : List (Addr × Obj)) (s : Shared) (Q E : Value → Shared → Prop),
    Below A₀ base outer h₀ → Fr h₀ L s.heap m → (Mine.hd.heap_39 w.params).In h₀ → News h₀ L s.heap news → Top Mine.hd.view_39 loose mean mg mb h₀ → cs.kind = .function → dp + D < recursionLimit → un + U < cLine → CbRet h₀ L m news s Q R →
      wpAny (model PySem.Challenge.rw_ak5002_02.row.prog w) (ktrTop dp un gd cn cs L a ccd cl outer) (call (.ref f) vs) Q E s

theorem Claim.use {w : World} {f : Addr} {D U : Nat} {vs : List Value} {R : Tok → Value} (C : Claim w f D U vs R) {loose : List Str} {mean : ExcName → Option Value} {mg mb : Str → Option Value} {dp un : Nat} {gd : Option (List Code)} {cn : Str} {cs : Scope} {a : Addr} {ccd : Value} {cl : List (Str × Addr)} {outer : List Env} {A₀ : Around} {base h₀ : Heap} {L : Addr} {m : Str → Option Value} {news : List (Addr × Obj)} {s : Shared} {Q E : Value → Shared → Prop}
    (B : Below A₀ base outer h₀) (F : Fr h₀ L s.heap m) (X : (Mine.hd.heap_39 w.params).In h₀) (N : News h₀ L s.heap news) (T : Top Mine.hd.view_39 loose mean mg mb h₀) (hk : cs.kind = .function) (hd : dp + D < recursionLimit) (hu : un + U < cLine) (ret : CbRet h₀ L m news s Q R) :
      wpAny (model PySem.Challenge.rw_ak5002_02.row.prog w) (ktrTop dp un gd cn cs L a ccd cl outer) (call (.ref f) vs) Q E s :=
  C loose mean mg mb dp un gd cn cs a ccd cl outer A₀ base h₀ L m news s Q E B F X N T hk hd hu ret
def ClaimD (w : World) (f : Addr) (D U : Nat) (vs : List Value) (n : Int) : Prop :=
  ∀ (loose : List Str) (mean : ExcName → Option Value) (mg mb : Str → Option Value) (dp un : Nat) (gd : Option (List Code)) (cn : Str) (cs : Scope) (a : Addr) (ccd : Value) (cl : List (Str × Addr)) (outer : List Env) (A₀ : Around) (base h₀ : Heap) (L : Addr) (m : Str → Option Value) (news : List (Addr × Obj)) (s : Shared) (Q E : Value → Shared → Prop),
    Below A₀ base outer h₀ → Fr h₀ L s.heap m → (Mine.hd.heap_39 w.params).In h₀ → News h₀ L s.heap news → Top Mine.hd.view_39 loose mean mg mb h₀ → cs.kind = .function → dp + D < recursionLimit → un + U < cLine → RetD h₀ L m news s Q n →
      wpAny (model PySem.Challenge.rw_ak5002_02.row.prog w) (ktrTop dp un gd cn cs L a ccd cl outer) (call (.ref f) vs) Q E s

theorem ClaimD.use {w : World} {f : Addr} {D U : Nat} {vs : List Value} {n : Int} (C : ClaimD w f D U vs n) {loose : List Str} {mean : ExcName → Option Value} {mg mb : Str → Option Value} {dp un : Nat} {gd : Option (List Code)} {cn : Str} {cs : Scope} {a : Addr} {ccd : Value} {cl : List (Str × Addr)} {outer : List Env} {A₀ : Around} {base h₀ : Heap} {L : Addr} {m : Str → Option Value} {news : List (Addr × Obj)} {s : Shared} {Q E : Value → Shared → Prop}
    (B : Below A₀ base outer h₀) (F : Fr h₀ L s.heap m) (X : (Mine.hd.heap_39 w.params).In h₀) (N : News h₀ L s.heap news) (T : Top Mine.hd.view_39 loose mean mg mb h₀) (hk : cs.kind = .function) (hd : dp + D < recursionLimit) (hu : un + U < cLine) (ret : RetD h₀ L m news s Q n) :
      wpAny (model PySem.Challenge.rw_ak5002_02.row.prog w) (ktrTop dp un gd cn cs L a ccd cl outer) (call (.ref f) vs) Q E s :=
  C loose mean mg mb dp un gd cn cs a ccd cl outer A₀ base h₀ L m news s Q E B F X N T hk hd hu ret
def ClaimL (w : World) (f : Addr) (D U : Nat) : Prop :=
  ∀ (loose : List Str) (mean : ExcName → Option Value) (mg mb : Str → Option Value) (dp un : Nat) (gd : Option (List Code)) (cn : Str) (cs : Scope) (a : Addr) (ccd : Value) (cl : List (Str × Addr)) (outer : List Env) (A₀ : Around) (base h₀ : Heap) (L : Addr) (m : Str → Option Value) (news : List (Addr × Obj)) (s : Shared) (Q E : Value → Shared → Prop),
    Below A₀ base outer h₀ → Fr h₀ L s.heap m → (Mine.hd.heap_39 w.params).In h₀ → News h₀ L s.heap news → Top Mine.hd.view_39 loose mean mg mb h₀ → cs.kind = .function → dp + D < recursionLimit → un + U < cLine → RetL h₀ L m news s Q →
      wpAny (model PySem.Challenge.rw_ak5002_02.row.prog w) (ktrTop dp un gd cn cs L a ccd cl outer) (call (.ref f) []) Q E s

theorem ClaimL.use {w : World} {f : Addr} {D U : Nat} (C : ClaimL w f D U) {loose : List Str} {mean : ExcName → Option Value} {mg mb : Str → Option Value} {dp un : Nat} {gd : Option (List Code)} {cn : Str} {cs : Scope} {a : Addr} {ccd : Value} {cl : List (Str × Addr)} {outer : List Env} {A₀ : Around} {base h₀ : Heap} {L : Addr} {m : Str → Option Value} {news : List (Addr × Obj)} {s : Shared} {Q E : Value → Shared → Prop}
    (B : Below A₀ base outer h₀) (F : Fr h₀ L s.heap m) (X : (Mine.hd.heap_39 w.params).In h₀) (N : News h₀ L s.heap news) (T : Top Mine.hd.view_39 loose mean mg mb h₀) (hk : cs.kind = .function) (hd : dp + D < recursionLimit) (hu : un + U < cLine) (ret : RetL h₀ L m news s Q) :
      wpAny (model PySem.Challenge.rw_ak5002_02.row.prog w) (ktrTop dp un gd cn cs L a ccd cl outer) (call (.ref f) []) Q E s :=
  C loose mean mg mb dp un gd cn cs a ccd cl outer A₀ base h₀ L m news s Q E B F X N T hk hd hu ret
def ClaimM (w : World) (f : Addr) (D U : Nat) (vs : List Value) (n : Int) : Prop :=
  ∀ (loose : List Str) (mean : ExcName → Option Value) (mg mb : Str → Option Value) (dp un : Nat) (gd : Option (List Code)) (cn : Str) (cs : Scope) (a : Addr) (ccd : Value) (cl : List (Str × Addr)) (outer : List Env) (A₀ : Around) (base h₀ : Heap) (L : Addr) (m : Str → Option Value) (news : List (Addr × Obj)) (s : Shared) (Q E : Value → Shared → Prop),
    Below A₀ base outer h₀ → Fr h₀ L s.heap m → (Mine.hd.heap_39 w.params).In h₀ → News h₀ L s.heap news → Top Mine.hd.view_39 loose mean mg mb h₀ → cs.kind = .function → dp + D < recursionLimit → un + U < cLine → RetM h₀ L m news s Q n →
      wpAny (model PySem.Challenge.rw_ak5002_02.row.prog w) (ktrTop dp un gd cn cs L a ccd cl outer) (call (.ref f) vs) Q E s

theorem ClaimM.use {w : World} {f : Addr} {D U : Nat} {vs : List Value} {n : Int} (C : ClaimM w f D U vs n) {loose : List Str} {mean : ExcName → Option Value} {mg mb : Str → Option Value} {dp un : Nat} {gd : Option (List Code)} {cn : Str} {cs : Scope} {a : Addr} {ccd : Value} {cl : List (Str × Addr)} {outer : List Env} {A₀ : Around} {base h₀ : Heap} {L : Addr} {m : Str → Option Value} {news : List (Addr × Obj)} {s : Shared} {Q E : Value → Shared → Prop}
    (B : Below A₀ base outer h₀) (F : Fr h₀ L s.heap m) (X : (Mine.hd.heap_39 w.params).In h₀) (N : News h₀ L s.heap news) (T : Top Mine.hd.view_39 loose mean mg mb h₀) (hk : cs.kind = .function) (hd : dp + D < recursionLimit) (hu : un + U < cLine) (ret : RetM h₀ L m news s Q n) :
      wpAny (model PySem.Challenge.rw_ak5002_02.row.prog w) (ktrTop dp un gd cn cs L a ccd cl outer) (call (.ref f) vs) Q E s :=
  C loose mean mg mb dp un gd cn cs a ccd cl outer A₀ base h₀ L m news s Q E B F X N T hk hd hu ret
def ClaimQ (w : World) (f : Addr) (D U : Nat) (vs : List Value) (n : Int) : Prop :=
  ∀ (loose : List Str) (mean : ExcName → Option Value) (mg mb : Str → Option Value) (dp un : Nat) (gd : Option (List Code)) (cn : Str) (cs : Scope) (a : Addr) (ccd : Value) (cl : List (Str × Addr)) (outer : List Env) (A₀ : Around) (base h₀ : Heap) (L : Addr) (m : Str → Option Value) (news : List (Addr × Obj)) (s : Shared) (Q E : Value → Shared → Prop),
    Below A₀ base outer h₀ → Fr h₀ L s.heap m → (Mine.hd.heap_39 w.params).In h₀ → News h₀ L s.heap news → Top Mine.hd.view_39 loose mean mg mb h₀ → cs.kind = .function → dp + D < recursionLimit → un + U < cLine → RetQ h₀ L m news s Q n →
      wpAny (model PySem.Challenge.rw_ak5002_02.row.prog w) (ktrTop dp un gd cn cs L a ccd cl outer) (call (.ref f) vs) Q E s

theorem ClaimQ.use {w : World} {f : Addr} {D U : Nat} {vs : List Value} {n : Int} (C : ClaimQ w f D U vs n) {loose : List Str} {mean : ExcName → Option Value} {mg mb : Str → Option Value} {dp un : Nat} {gd : Option (List Code)} {cn : Str} {cs : Scope} {a : Addr} {ccd : Value} {cl : List (Str × Addr)} {outer : List Env} {A₀ : Around} {base h₀ : Heap} {L : Addr} {m : Str → Option Value} {news : List (Addr × Obj)} {s : Shared} {Q E : Value → Shared → Prop}
    (B : Below A₀ base outer h₀) (F : Fr h₀ L s.heap m) (X : (Mine.hd.heap_39 w.params).In h₀) (N : News h₀ L s.heap news) (T : Top Mine.hd.view_39 loose mean mg mb h₀) (hk : cs.kind = .function) (hd : dp + D < recursionLimit) (hu : un + U < cLine) (ret : RetQ h₀ L m news s Q n) :
      wpAny (model PySem.Challenge.rw_ak5002_02.row.prog w) (ktrTop dp un gd cn cs L a ccd cl outer) (call (.ref f) vs) Q E s :=
  C loose mean mg mb dp un gd cn cs a ccd cl outer A₀ base h₀ L m news s Q E B F X N T hk hd hu ret
end Mine

open PySem PySem.W PyProof.Rows PySem.Spec PySem.Calls
set_option maxRecDepth 100000
set_option Elab.async false
namespace Mine
section
variable {h₀ h' : Heap} {L : Addr} {m : Str → Option Value} {news news' : List (Addr × Obj)} {s : Shared} {Q : Value → Shared → Prop} {t : Tok} {tk' : Nat}
theorem retI {x y : Int} (hret : CbRet h₀ L m news s Q (fun t => .int x t)) (F : Fr h₀ L h' m) (N : News h₀ L h' news') (hs : ∀ p ∈ news, p ∈ news') (e : y = x) : Q (.int y t) { s with heap := h', toks := tk' } := by
  subst e
  exact hret t h' tk' F (cb_drop N hs)
theorem retB {x y : Bool} (hret : CbRet h₀ L m news s Q (fun _ => .bool x)) (F : Fr h₀ L h' m) (N : News h₀ L h' news') (hs : ∀ p ∈ news, p ∈ news') (e : y = x) : Q (.bool y) { s with heap := h', toks := tk' } := by
  subst e
  exact hret 0 h' tk' F (cb_drop N hs)
theorem retF {x y : Int} (hret : CbRet h₀ L m news s Q (fun t => .float (Hf x) t)) (F : Fr h₀ L h' m) (N : News h₀ L h' news') (hs : ∀ p ∈ news, p ∈ news') (e : y = x) : Q (.float (Hf y) t) { s with heap := h', toks := tk' } := by
  subst e
  exact hret t h' tk' F (cb_drop N hs)
end
local macro_rules | `(tactic| walk_at "binaryOp Add float int") => `(tactic| (k_here; (with_reducible show wpAny _ _ (binaryOp _ (Value.float _ _) (Value.int _ _)) _ _ _); k_dflt (refine' f_add_fi ?hx ?hk ?hn ?hc ?_; (case hx => first | with_reducible rfl | exact lit_epoch | exact lit_half | exact lit_mul | exact lit_div); (case hk => omega); (case hn => omega); (case hc => omega)); (try dsimp only)))
local macro_rules | `(tactic| walk_at "binaryOp Add int float") => `(tactic| (k_here; (with_reducible show wpAny _ _ (binaryOp _ (Value.int _ _) (Value.float _ _)) _ _ _); k_dflt (refine' f_add_if ?hx ?hk ?hn ?hc ?_; (case hx => first | with_reducible rfl | exact lit_epoch | exact lit_half | exact lit_mul | exact lit_div); (case hk => omega); (case hn => omega); (case hc => omega)); (try dsimp only)))
local macro_rules | `(tactic| walk_at "binaryOp Sub int float") => `(tactic| (k_here; (with_reducible show wpAny _ _ (binaryOp _ (Value.int _ _) (Value.float _ _)) _ _ _); k_dflt (refine' f_sub_if ?hx ?hk ?hn ?hc ?_; (case hx => first | with_reducible rfl | exact lit_epoch | exact lit_half | exact lit_mul | exact lit_div); (case hk => omega); (case hn => omega); (case hc => omega)); (try dsimp only)))
local macro_rules | `(tactic| walk_at "inplaceOp Add float int") => `(tactic| (k_here; (with_reducible show wpAny _ _ (inplaceOp _ (Value.float _ _) (Value.int _ _)) _ _ _); k_dflt (refine' f_iadd_fi ?hx ?hk ?hn ?hc ?_; (case hx => first | with_reducible rfl | exact lit_epoch | exact lit_half | exact lit_mul | exact lit_div); (case hk => omega); (case hn => omega); (case hc => omega)); (try dsimp only)))
local macro_rules | `(tactic| walk_at "binaryOp Sub float float") => `(tactic| (k_here; (with_reducible show wpAny _ _ (binaryOp _ (Value.float _ _) (Value.float _ _)) _ _ _); k_dflt (refine' f_sub_ff ?hx ?hy ?hk ?hl ?hc ?_; (case hx => first | with_reducible rfl | exact lit_epoch | exact lit_half | exact lit_mul | exact lit_div); (case hy => first | with_reducible rfl | exact lit_epoch | exact lit_half | exact lit_mul | exact lit_div); (case hk => omega); (case hl => omega); (case hc => omega)); (try dsimp only)))
local macro_rules | `(tactic| walk_at "binaryOp Mult float float") => `(tactic| (k_here; (with_reducible show wpAny _ _ (binaryOp _ (Value.float _ _) (Value.float _ _)) _ _ _); k_dflt (refine' f_mul_ff ?hx ?hy ?h0 ?hk ?_; (case hx => first | with_reducible rfl | exact lit_epoch | exact lit_half | exact lit_mul | exact lit_div); (case hy => first | with_reducible rfl | exact lit_epoch | exact lit_half | exact lit_mul | exact lit_div); (case h0 => omega); (case hk => omega)); (try dsimp only)))
local macro_rules | `(tactic| walk_at "binaryOp Div int int") => `(tactic| (k_here; (with_reducible show wpAny _ _ (binaryOp _ (Value.int _ _) (Value.int 19 _)) _ _ _); k_dflt (refine' f_div_19 ?hn ?hq ?_; (case hn => omega); (case hq => omega)); intro z' fz'; (try dsimp only)))
local macro_rules | `(tactic| walk_at "binaryOp Div int int") => `(tactic| (k_here; (with_reducible show wpAny _ _ (binaryOp _ (Value.int _ _) (Value.int 25920 _)) _ _ _); k_dflt (refine' f_div_25920 ?hn ?hq ?_; (case hn => omega); (case hq => omega)); intro z' fz'; (try dsimp only)))
local macro_rules | `(tactic| walk_at "binaryOp Div float float") => `(tactic| (k_here; (with_reducible show wpAny _ _ (binaryOp _ (Value.float _ _) (Value.float _ _)) _ _ _); k_dflt (refine' f_div_ff ?hx ?hy ?h0 ?hk ?hq ?_; (case hx => first | with_reducible rfl | exact lit_epoch | exact lit_half | exact lit_mul | exact lit_div); (case hy => first | with_reducible rfl | exact lit_epoch | exact lit_half | exact lit_mul | exact lit_div); (case h0 => omega); (case hk => omega); (case hq => omega)); intro z' fz'; (try dsimp only)))
local macro_rules | `(tactic| walk_at "call builtin:math.floor") => `(tactic| (k_here; (with_reducible show wpAny _ _ (call _ [Value.float _ _]) _ _ _); k_dflt (refine' f_floor_h ?hA ?hx ?hk ?_; (case hA => rfl); (case hx => first | with_reducible rfl | exact lit_epoch | exact lit_half | exact lit_mul | exact lit_div); (case hk => omega)); (try dsimp only)))
local macro_rules | `(tactic| walk_at "call builtin:math.floor") => `(tactic| (k_here; (with_reducible show wpAny _ _ (call _ [Value.float _ _]) _ _ _); k_dflt (refine' f_floor_q ?hA ?hx ?_; (case hA => rfl); (case hx => assumption)); (try dsimp only)))
local macro_rules | `(tactic| walk_at "call type:int") => `(tactic| (k_here; (with_reducible show wpAny _ _ (call _ [Value.float _ _]) _ _ _); k_dflt (refine' f_int ?hA ?hx ?h0 ?hk ?_; (case hA => rfl); (case hx => first | with_reducible rfl | exact lit_epoch | exact lit_half | exact lit_mul | exact lit_div); (case h0 => omega); (case hk => omega)); (try dsimp only)))
local macro_rules | `(tactic| walk_at "binaryOp Mod float int") => `(tactic| (k_here; (with_reducible show wpAny _ _ (binaryOp _ (Value.float _ _) (Value.int _ _)) _ _ _); k_dflt (refine' f_mod_fi ?hx ?h0 ?hk ?h1 ?hn ?_; (case hx => with_reducible rfl); (case h0 => omega); (case hk => omega); (case h1 => decide); (case hn => decide)); (try dsimp only)))
local macro_rules | `(tactic| walk_at "compareOp Lt float float") => `(tactic| (k_here; (with_reducible show wpAny _ _ (compareOp _ (Value.float _ _) (Value.float _ _)) _ _ _); k_dflt (refine' f_lt_ff ?hx ?hy ?hk ?hl ?_; (case hx => first | with_reducible rfl | exact lit_epoch | exact lit_half | exact lit_mul | exact lit_div); (case hy => first | with_reducible rfl | exact lit_epoch | exact lit_half | exact lit_mul | exact lit_div); (case hk => omega); (case hl => omega)); (try dsimp only)))
local macro_rules | `(tactic| walk_at "compareOp Gt float float") => `(tactic| (k_here; (with_reducible show wpAny _ _ (compareOp _ (Value.float _ _) (Value.float _ _)) _ _ _); k_dflt (refine' f_gt_ff ?hx ?hy ?hk ?hl ?_; (case hx => first | with_reducible rfl | exact lit_epoch | exact lit_half | exact lit_mul | exact lit_div); (case hy => first | with_reducible rfl | exact lit_epoch | exact lit_half | exact lit_mul | exact lit_div); (case hk => omega); (case hl => omega)); (try dsimp only)))
local macro_rules | `(tactic| walk_at "compareOp GtE float float") => `(tactic| (k_here; (with_reducible show wpAny _ _ (compareOp _ (Value.float _ _) (Value.float _ _)) _ _ _); k_dflt (refine' f_ge_ff ?hx ?hy ?hk ?hl ?_; (case hx => first | with_reducible rfl | exact lit_epoch | exact lit_half | exact lit_mul | exact lit_div); (case hy => first | with_reducible rfl | exact lit_epoch | exact lit_half | exact lit_mul | exact lit_div); (case hk => omega); (case hl => omega)); (try dsimp only)))
local macro_rules | `(tactic| walk_at "compareOp NotEq float float") => `(tactic| (k_here; (with_reducible show wpAny _ _ (compareOp _ (Value.float _ _) (Value.float _ _)) _ _ _); k_dflt (refine' f_ne_ff ?hx ?hy ?hk ?hl ?_; (case hx => first | with_reducible rfl | exact lit_epoch | exact lit_half | exact lit_mul | exact lit_div); (case hy => first | with_reducible rfl | exact lit_epoch | exact lit_half | exact lit_mul | exact lit_div); (case hk => omega); (case hl => omega)); (try dsimp only)))
local macro_rules | `(tactic| walk_at "compareOp NotEq float int") => `(tactic| (k_here; (with_reducible show wpAny _ _ (compareOp _ (Value.float _ _) (Value.int _ _)) _ _ _); k_dflt (refine' f_ne_fi ?hx ?hk ?_; (case hx => first | with_reducible rfl | exact lit_epoch | exact lit_half | exact lit_mul | exact lit_div); (case hk => omega)); (try dsimp only)))
local macro_rules | `(tactic| walk_at "compareOp Eq float int") => `(tactic| (k_here; (with_reducible show wpAny _ _ (compareOp _ (Value.float _ _) (Value.int _ _)) _ _ _); k_dflt (refine' f_eq_fi ?hx ?hk ?_; (case hx => first | with_reducible rfl | exact lit_epoch | exact lit_half | exact lit_mul | exact lit_div); (case hk => omega)); (try dsimp only)))
set_option maxHeartbeats 2000000 in
theorem leap_claim (w : World) (y : Int) (t : Tok) : Claim w 49 1 8 [.int y t] (fun _ => .bool (lp y)) := by
  unfold Claim
  k_fill
  w_on
  intro loose mean mg mb dp un gd cn cs a ccd cl outer A₀ base h₀ L m news s Q E B F X N T hk hd hu hret
  dsimp only [CbRet] at hret
  refine wpAny_call ?_
  k_dflt cell_enter
  k_steps
  all_goals (refine' retB hret ?kF ?kN ?kS ?kE; (case kF => k_asm); (case kN => k_asm); (case kS => first | exact fun _ hp => hp | kcj_all); (case kE => (rw [Int.fmod_eq_emod_of_nonneg _ (by decide)]; rfl)))
local macro_rules | `(tactic| walk_at "call ref") => `(tactic| (k_here; (with_reducible show wpAny _ _ (call (Value.ref 49) [Value.int _ _]) _ _ _); k_dflt (refine' Claim.use (leap_claim _ _ _) ?k1 ?k2 ?k3 ?k4 ?k5 ?kK ?kd ?ku ?_; (case k1 => k_asm); (case k2 => k_asm); (case k3 => k_asm); (case k4 => k_asm); (case k5 => k_asm); (case kK => first | exact rfl | assumption); (case kd => ktr_room); (case ku => ktr_units)); (dsimp only [CbRet]); intro t9 h9 tk9 F9 N9; (try dsimp only); (try k_fold)))
set_option maxHeartbeats 2000000 in
theorem year_months_claim (w : World) (y : Int) (t : Tok) : Claim w 56 2 16 [.int y t] (fun t => .int (ym y) t) := by
  unfold Claim
  k_fill
  w_on
  intro loose mean mg mb dp un gd cn cs a ccd cl outer A₀ base h₀ L m news s Q E B F X N T hk hd hu hret
  dsimp only [CbRet] at hret
  refine wpAny_call ?_
  k_dflt cell_enter
  k_steps
  all_goals (refine' retI hret ?kF ?kN ?kS ?kE; (case kF => k_asm); (case kN => k_asm); (case kS => first | exact fun _ hp => hp | kcj_all); (case kE => (unfold ym; simp_all)))
local macro_rules | `(tactic| walk_at "call ref") => `(tactic| (k_here; (with_reducible show wpAny _ _ (call (Value.ref 56) [Value.int _ _]) _ _ _); k_dflt (refine' Claim.use (year_months_claim _ _ _) ?k1 ?k2 ?k3 ?k4 ?k5 ?kK ?kd ?ku ?_; (case k1 => k_asm); (case k2 => k_asm); (case k3 => k_asm); (case k4 => k_asm); (case k5 => k_asm); (case kK => first | exact rfl | assumption); (case kd => ktr_room); (case ku => ktr_units)); (dsimp only [CbRet]); intro t9 h9 tk9 F9 N9; (try dsimp only); (try k_fold)))
set_option maxHeartbeats 2000000 in
theorem delay_1_claim (w : World) (y : Int) (t : Tok) (h0 : -1 ≤ y) (h1 : y ≤ 20000000) : Claim w 63 1 8 [.int y t] (fun t => .int (d1 y) t) := by
  have hy : 0 ≤ 235 * y - 234 ∨ 235 * y - 234 = -234 ∨ 235 * y - 234 = -469 := by omega
  have hm := mo_bd h0 h1
  have hp : 0 ≤ 12084 + 13753 * mo y ∨ 12084 + 13753 * mo y = -166705 ∨ 12084 + 13753 * mo y = -331741 := by unfold mo; omega
  unfold Claim
  k_fill
  w_on
  intro loose mean mg mb dp un gd cn cs a ccd cl outer A₀ base h₀ L m news s Q E B F X N T hk hd hu hret
  dsimp only [CbRet] at hret
  refine wpAny_call ?_
  k_dflt cell_enter
  k_steps
  all_goals (refine' retI hret ?kF ?kN ?kS ?kE; (case kF => k_asm); (case kN => k_asm); (case kS => first | exact fun _ hp => hp | kcj_all); (case kE => first | exact d1_a (by assumption) | exact d1_b (by assumption)))
local macro_rules | `(tactic| walk_at "call ref") => `(tactic| (k_here; (with_reducible show wpAny _ _ (call (Value.ref 63) [Value.int _ _]) _ _ _); k_dflt (refine' Claim.use (delay_1_claim _ _ _ ?kp0 ?kp1) ?k1 ?k2 ?k3 ?k4 ?k5 ?kK ?kd ?ku ?_; (case k1 => k_asm); (case k2 => k_asm); (case k3 => k_asm); (case k4 => k_asm); (case k5 => k_asm); (case kK => first | exact rfl | assumption); (case kd => ktr_room); (case ku => ktr_units); (case kp0 => omega); (case kp1 => omega)); (dsimp only [CbRet]); intro t9 h9 tk9 F9 N9; (try dsimp only); (try k_fold)))
set_option maxHeartbeats 2000000 in
theorem delay_2_claim (w : World) (y : Int) (t : Tok) (h0 : 0 ≤ y) (h1 : y ≤ 19999999) : Claim w 70 2 16 [.int y t] (fun t => .int (d2 y) t) := by
  unfold Claim
  k_fill
  w_on
  intro loose mean mg mb dp un gd cn cs a ccd cl outer A₀ base h₀ L m news s Q E B F X N T hk hd hu hret
  dsimp only [CbRet] at hret
  refine wpAny_call ?_
  k_dflt cell_enter
  k_steps
  all_goals (refine' retI hret ?kF ?kN ?kS ?kE; (case kF => k_asm); (case kN => k_asm); (case kS => first | exact fun _ hp => hp | kcj_all); (case kE => (unfold d2; (repeat' split) <;> first | rfl | omega | contradiction)))
local macro_rules | `(tactic| walk_at "call ref") => `(tactic| (k_here; (with_reducible show wpAny _ _ (call (Value.ref 70) [Value.int _ _]) _ _ _); k_dflt (refine' Claim.use (delay_2_claim _ _ _ ?kp0 ?kp1) ?k1 ?k2 ?k3 ?k4 ?k5 ?kK ?kd ?ku ?_; (case k1 => k_asm); (case k2 => k_asm); (case k3 => k_asm); (case k4 => k_asm); (case k5 => k_asm); (case kK => first | exact rfl | assumption); (case kd => ktr_room); (case ku => ktr_units); (case kp0 => omega); (case kp1 => omega)); (dsimp only [CbRet]); intro t9 h9 tk9 F9 N9; (try dsimp only); (try k_fold)))
set_option maxHeartbeats 2000000 in
theorem to_jd7_claim (w : World) (y d : Int) (t u v : Tok) (h0 : 0 ≤ y) (h1 : y ≤ 19999999) (h2 : -1000 ≤ d) (h3 : d ≤ 1000) : Claim w 98 3 24 [.int y t, .int 7 u, .int d v] (fun t => .float (Hf (2 * (347996 + ny y + d) + 1)) t) := by
  have b1 := d1_bd (y := y) (by omega) (by omega)
  have b2 := d2_bd y
  unfold Claim
  k_fill
  w_on
  intro loose mean mg mb dp un gd cn cs a ccd cl outer A₀ base h₀ L m news s Q E B F X N T hk hd hu hret
  dsimp only [CbRet] at hret
  refine wpAny_call ?_
  k_dflt cell_enter
  k_steps
  all_goals (refine' retF hret ?kF ?kN ?kS ?kE; (case kF => k_asm); (case kN => k_asm); (case kS => first | exact fun _ hp => hp | kcj_all); (case kE => (unfold ny; omega)))
local macro_rules | `(tactic| walk_at "call ref") => `(tactic| (k_here; (with_reducible show wpAny _ _ (call (Value.ref 98) [Value.int _ _, Value.int 7 _, Value.int _ _]) _ _ _); k_dflt (refine' Claim.use (to_jd7_claim _ _ _ _ _ _ ?kp0 ?kp1 ?kp2 ?kp3) ?k1 ?k2 ?k3 ?k4 ?k5 ?kK ?kd ?ku ?_; (case k1 => k_asm); (case k2 => k_asm); (case k3 => k_asm); (case k4 => k_asm); (case k5 => k_asm); (case kK => first | exact rfl | assumption); (case kd => ktr_room); (case ku => ktr_units); (case kp0 => omega); (case kp1 => omega); (case kp2 => omega); (case kp3 => omega)); (dsimp only [CbRet]); intro t9 h9 tk9 F9 N9; (try dsimp only); (try k_fold)))
set_option maxHeartbeats 2000000 in
theorem year_days_claim (w : World) (y : Int) (t : Tok) (h0 : 0 ≤ y) (h1 : y ≤ 19999998) : Claim w 77 4 32 [.int y t] (fun t => .float (Hf (2 * yd y)) t) := by
  have b1 := ny_bd (y := y) (by omega) (by omega)
  have b2 := ny_bd (y := y + 1) (by omega) (by omega)
  unfold Claim
  k_fill
  w_on
  intro loose mean mg mb dp un gd cn cs a ccd cl outer A₀ base h₀ L m news s Q E B F X N T hk hd hu hret
  dsimp only [CbRet] at hret
  refine wpAny_call ?_
  k_dflt cell_enter
  k_steps
  all_goals (refine' retF hret ?kF ?kN ?kS ?kE; (case kF => k_asm); (case kN => k_asm); (case kS => first | exact fun _ hp => hp | kcj_all); (case kE => (unfold yd; omega)))
local macro_rules | `(tactic| walk_at "call ref") => `(tactic| (k_here; (with_reducible show wpAny _ _ (call (Value.ref 77) [Value.int _ _]) _ _ _); k_dflt (refine' Claim.use (year_days_claim _ _ _ ?kp0 ?kp1) ?k1 ?k2 ?k3 ?k4 ?k5 ?kK ?kd ?ku ?_; (case k1 => k_asm); (case k2 => k_asm); (case k3 => k_asm); (case k4 => k_asm); (case k5 => k_asm); (case kK => first | exact rfl | assumption); (case kd => ktr_room); (case ku => ktr_units); (case kp0 => omega); (case kp1 => omega)); (dsimp only [CbRet]); intro t9 h9 tk9 F9 N9; (try dsimp only); (try k_fold)))
set_option maxHeartbeats 2000000 in
theorem month_length_claim (w : World) (y mo : Int) (t u : Tok) (h0 : 0 ≤ y) (h1 : y ≤ 19999998) (hm : 1 ≤ mo) (hm' : mo ≤ 13) : Claim w 84 5 40 [.int y t, .int mo u] (fun t => .int (ml y mo) t) := by
  have b1 := ny_bd (y := y) (by omega) (by omega)
  have b2 := ny_bd (y := y + 1) (by omega) (by omega)
  have b3 : 300 ≤ yd y ∧ yd y ≤ 400 := yd_bd h0 h1
  unfold Claim
  k_fill
  w_on
  intro loose mean mg mb dp un gd cn cs a ccd cl outer A₀ base h₀ L m news s Q E B F X N T hk hd hu hret
  dsimp only [CbRet] at hret
  refine wpAny_call ?_
  k_dflt cell_enter
  k_steps
  all_goals (refine' retI hret ?kF ?kN ?kS ?kE; (case kF => k_asm); (case kN => k_asm); (case kS => first | exact fun _ hp => hp | kcj_all); (case kE => first | exact ml_t (by assumption) | (rw [ml_f (by assumption)]; (repeat' split) <;> first | rfl | (exfalso; omega) | (exfalso; simp_all; done) | (exfalso; simp_all; omega))))
local macro_rules | `(tactic| walk_at "call ref") => `(tactic| (k_here; (with_reducible show wpAny _ _ (call (Value.ref 84) [Value.int _ _, Value.int _ _]) _ _ _); k_dflt (refine' Claim.use (month_length_claim _ _ _ _ _ ?kp0 ?kp1 ?kp2 ?kp3) ?k1 ?k2 ?k3 ?k4 ?k5 ?kK ?kd ?ku ?_; (case k1 => k_asm); (case k2 => k_asm); (case k3 => k_asm); (case k4 => k_asm); (case k5 => k_asm); (case kK => first | exact rfl | assumption); (case kd => ktr_room); (case ku => ktr_units); (case kp0 => omega); (case kp1 => omega); (case kp2 => omega); (case kp3 => omega)); (dsimp only [CbRet]); intro t9 h9 tk9 F9 N9; (try dsimp only); (try k_fold)))
set_option maxHeartbeats 2000000 in
theorem month_days_claim (w : World) (y mo : Int) (t u : Tok) (h0 : 0 ≤ y) (h1 : y ≤ 19999998) (hm : 1 ≤ mo) (hm' : mo ≤ 13) : Claim w 91 6 48 [.int y t, .int mo u] (fun t => .int (ml y mo) t) := by
  unfold Claim
  k_fill
  w_on
  intro loose mean mg mb dp un gd cn cs a ccd cl outer A₀ base h₀ L m news s Q E B F X N T hk hd hu hret
  dsimp only [CbRet] at hret
  refine wpAny_call ?_
  k_dflt cell_enter
  k_steps
  all_goals (refine' retI hret ?kF ?kN ?kS ?kE; (case kF => k_asm); (case kN => k_asm); (case kS => first | exact fun _ hp => hp | kcj_all); (case kE => rfl))
local macro_rules | `(tactic| walk_at "call ref") => `(tactic| (k_here; (with_reducible show wpAny _ _ (call (Value.ref 91) [Value.int _ _, Value.int _ _]) _ _ _); k_dflt (refine' Claim.use (month_days_claim _ _ _ _ _ ?kp0 ?kp1 ?kp2 ?kp3) ?k1 ?k2 ?k3 ?k4 ?k5 ?kK ?kd ?ku ?_; (case k1 => k_asm); (case k2 => k_asm); (case k3 => k_asm); (case k4 => k_asm); (case k5 => k_asm); (case kK => first | exact rfl | assumption); (case kd => ktr_room); (case ku => ktr_units); (case kp0 => omega); (case kp1 => omega); (case kp2 => omega); (case kp3 => omega)); (dsimp only [CbRet]); intro t9 h9 tk9 F9 N9; (try dsimp only); (try k_fold)))
local macro_rules | `(tactic| walk_at "pyIter ref") => `(tactic| (k_here; (with_reducible show wpAny _ _ (pyIter (Value.ref _)) (fun it s₂ => LoopAtV _ _ _ _ _ _ _ _ _ it s₂) _ _); (rename Fr _ _ _ _ => lF'); (rename News _ _ _ _ => lN'); (rename IsRange _ _ _ _ _ _ _ _ => rgX); (with_unfolding_all refine' forRange_ml (by assumption) (Str.ofString "jd") (by rfl) rgX (small_one (by omega) (by omega) (by omega) (by omega)) lF' lN' (by rfl) (fun i' t' ta' h' tk' own' hi' hs0' hs1' hs2' hs3' hoff' F' N' => ?_) (fun u' t' h' tk' hs0' hs1' F' N' => ?_)); (all_goals (try clear lF' lN')); (all_goals (try simp only [List.nil_append, List.cons_append, List.append_nil] at N')); (all_goals (try k_fold))))
local macro_rules | `(tactic| walk_at "InvEndG") => `(tactic| (refine' endF ?kF ?kN ?kV ?kE ?kR ?kO ?kS; (case kF => k_asm); (case kN => k_asm); (case kV => with_unfolding_all rfl); (case kR => k_same2); (case kO => assumption); (case kS => first | exact fun _ hp => hp | kcj_all); (case kE => first | omega | (simp only [*]; omega))))
set_option maxHeartbeats 2000000 in
theorem to_jd_claim (w : World) (y mo d : Int) (t u v : Tok) (h0 : 0 ≤ y) (h1 : y ≤ 19999998) (hm : 1 ≤ mo) (hm' : mo ≤ 13) (h2 : -1000 ≤ d) (h3 : d ≤ 1000) : Claim w 98 8 64 [.int y t, .int mo u, .int d v] (fun t => .float (Hf (2 * (347996 + ny y + d + off y mo) + 1)) t) := by
  have b1 := d1_bd (y := y) (by omega) (by omega)
  have b2 := d2_bd y
  have b3 := ym_bd y
  have b4 : Yr y := Yr.mk
  have b5 := fun mm => ml_bd y mm
  unfold Claim
  k_fill
  w_on
  intro loose mean mg mb dp un gd cn cs a ccd cl outer A₀ base h₀ L m news s Q E B F X N T hk hd hu hret
  dsimp only [CbRet] at hret
  refine wpAny_call ?_
  k_dflt cell_enter
  k_steps
  all_goals (refine' retF hret ?kF ?kN ?kS ?kE; (case kF => k_asm); (case kN => k_asm); (case kS => first | exact fun _ hp => hp | kcj_all); (case kE => (unfold ny off; split <;> omega)))
end Mine

open PySem PySem.W PyProof.Rows PySem.Spec PySem.Calls
set_option maxRecDepth 100000
set_option Elab.async false
namespace Mine
local macro_rules | `(tactic| walk_at "binaryOp Add float int") => `(tactic| (k_here; (with_reducible show wpAny _ _ (binaryOp _ (Value.float _ _) (Value.int _ _)) _ _ _); k_dflt (refine' f_add_fi ?hx ?hk ?hn ?hc ?_; (case hx => first | with_reducible rfl | exact lit_epoch | exact lit_half | exact lit_mul | exact lit_div); (case hk => omega); (case hn => omega); (case hc => omega)); (try dsimp only)))
local macro_rules | `(tactic| walk_at "binaryOp Add int float") => `(tactic| (k_here; (with_reducible show wpAny _ _ (binaryOp _ (Value.int _ _) (Value.float _ _)) _ _ _); k_dflt (refine' f_add_if ?hx ?hk ?hn ?hc ?_; (case hx => first | with_reducible rfl | exact lit_epoch | exact lit_half | exact lit_mul | exact lit_div); (case hk => omega); (case hn => omega); (case hc => omega)); (try dsimp only)))
local macro_rules | `(tactic| walk_at "binaryOp Sub int float") => `(tactic| (k_here; (with_reducible show wpAny _ _ (binaryOp _ (Value.int _ _) (Value.float _ _)) _ _ _); k_dflt (refine' f_sub_if ?hx ?hk ?hn ?hc ?_; (case hx => first | with_reducible rfl | exact lit_epoch | exact lit_half | exact lit_mul | exact lit_div); (case hk => omega); (case hn => omega); (case hc => omega)); (try dsimp only)))
local macro_rules | `(tactic| walk_at "inplaceOp Add float int") => `(tactic| (k_here; (with_reducible show wpAny _ _ (inplaceOp _ (Value.float _ _) (Value.int _ _)) _ _ _); k_dflt (refine' f_iadd_fi ?hx ?hk ?hn ?hc ?_; (case hx => first | with_reducible rfl | exact lit_epoch | exact lit_half | exact lit_mul | exact lit_div); (case hk => omega); (case hn => omega); (case hc => omega)); (try dsimp only)))
local macro_rules | `(tactic| walk_at "binaryOp Sub float float") => `(tactic| (k_here; (with_reducible show wpAny _ _ (binaryOp _ (Value.float _ _) (Value.float _ _)) _ _ _); k_dflt (refine' f_sub_ff ?hx ?hy ?hk ?hl ?hc ?_; (case hx => first | with_reducible rfl | exact lit_epoch | exact lit_half | exact lit_mul | exact lit_div); (case hy => first | with_reducible rfl | exact lit_epoch | exact lit_half | exact lit_mul | exact lit_div); (case hk => omega); (case hl => omega); (case hc => omega)); (try dsimp only)))
local macro_rules | `(tactic| walk_at "binaryOp Mult float float") => `(tactic| (k_here; (with_reducible show wpAny _ _ (binaryOp _ (Value.float _ _) (Value.float _ _)) _ _ _); k_dflt (refine' f_mul_ff ?hx ?hy ?h0 ?hk ?_; (case hx => first | with_reducible rfl | exact lit_epoch | exact lit_half | exact lit_mul | exact lit_div); (case hy => first | with_reducible rfl | exact lit_epoch | exact lit_half | exact lit_mul | exact lit_div); (case h0 => omega); (case hk => omega)); (try dsimp only)))
local macro_rules | `(tactic| walk_at "binaryOp Div int int") => `(tactic| (k_here; (with_reducible show wpAny _ _ (binaryOp _ (Value.int _ _) (Value.int 19 _)) _ _ _); k_dflt (refine' f_div_19 ?hn ?hq ?_; (case hn => omega); (case hq => omega)); intro z' fz'; (try dsimp only)))
local macro_rules | `(tactic| walk_at "binaryOp Div int int") => `(tactic| (k_here; (with_reducible show wpAny _ _ (binaryOp _ (Value.int _ _) (Value.int 25920 _)) _ _ _); k_dflt (refine' f_div_25920 ?hn ?hq ?_; (case hn => omega); (case hq => omega)); intro z' fz'; (try dsimp only)))
local macro_rules | `(tactic| walk_at "binaryOp Div float float") => `(tactic| (k_here; (with_reducible show wpAny _ _ (binaryOp _ (Value.float _ _) (Value.float _ _)) _ _ _); k_dflt (refine' f_div_ff ?hx ?hy ?h0 ?hk ?hq ?_; (case hx => first | with_reducible rfl | exact lit_epoch | exact lit_half | exact lit_mul | exact lit_div); (case hy => first | with_reducible rfl | exact lit_epoch | exact lit_half | exact lit_mul | exact lit_div); (case h0 => omega); (case hk => omega); (case hq => omega)); intro z' fz'; (try dsimp only)))
local macro_rules | `(tactic| walk_at "call builtin:math.floor") => `(tactic| (k_here; (with_reducible show wpAny _ _ (call _ [Value.float _ _]) _ _ _); k_dflt (refine' f_floor_h ?hA ?hx ?hk ?_; (case hA => rfl); (case hx => first | with_reducible rfl | exact lit_epoch | exact lit_half | exact lit_mul | exact lit_div); (case hk => omega)); (try dsimp only)))
local macro_rules | `(tactic| walk_at "call builtin:math.floor") => `(tactic| (k_here; (with_reducible show wpAny _ _ (call _ [Value.float _ _]) _ _ _); k_dflt (refine' f_floor_q ?hA ?hx ?_; (case hA => rfl); (case hx => assumption)); (try dsimp only)))
local macro_rules | `(tactic| walk_at "call type:int") => `(tactic| (k_here; (with_reducible show wpAny _ _ (call _ [Value.float _ _]) _ _ _); k_dflt (refine' f_int ?hA ?hx ?h0 ?hk ?_; (case hA => rfl); (case hx => first | with_reducible rfl | exact lit_epoch | exact lit_half | exact lit_mul | exact lit_div); (case h0 => omega); (case hk => omega)); (try dsimp only)))
local macro_rules | `(tactic| walk_at "binaryOp Mod float int") => `(tactic| (k_here; (with_reducible show wpAny _ _ (binaryOp _ (Value.float _ _) (Value.int _ _)) _ _ _); k_dflt (refine' f_mod_fi ?hx ?h0 ?hk ?h1 ?hn ?_; (case hx => with_reducible rfl); (case h0 => omega); (case hk => omega); (case h1 => decide); (case hn => decide)); (try dsimp only)))
local macro_rules | `(tactic| walk_at "compareOp Lt float float") => `(tactic| (k_here; (with_reducible show wpAny _ _ (compareOp _ (Value.float _ _) (Value.float _ _)) _ _ _); k_dflt (refine' f_lt_ff ?hx ?hy ?hk ?hl ?_; (case hx => first | with_reducible rfl | exact lit_epoch | exact lit_half | exact lit_mul | exact lit_div); (case hy => first | with_reducible rfl | exact lit_epoch | exact lit_half | exact lit_mul | exact lit_div); (case hk => omega); (case hl => omega)); (try dsimp only)))
local macro_rules | `(tactic| walk_at "compareOp Gt float float") => `(tactic| (k_here; (with_reducible show wpAny _ _ (compareOp _ (Value.float _ _) (Value.float _ _)) _ _ _); k_dflt (refine' f_gt_ff ?hx ?hy ?hk ?hl ?_; (case hx => first | with_reducible rfl | exact lit_epoch | exact lit_half | exact lit_mul | exact lit_div); (case hy => first | with_reducible rfl | exact lit_epoch | exact lit_half | exact lit_mul | exact lit_div); (case hk => omega); (case hl => omega)); (try dsimp only)))
local macro_rules | `(tactic| walk_at "compareOp GtE float float") => `(tactic| (k_here; (with_reducible show wpAny _ _ (compareOp _ (Value.float _ _) (Value.float _ _)) _ _ _); k_dflt (refine' f_ge_ff ?hx ?hy ?hk ?hl ?_; (case hx => first | with_reducible rfl | exact lit_epoch | exact lit_half | exact lit_mul | exact lit_div); (case hy => first | with_reducible rfl | exact lit_epoch | exact lit_half | exact lit_mul | exact lit_div); (case hk => omega); (case hl => omega)); (try dsimp only)))
local macro_rules | `(tactic| walk_at "compareOp NotEq float float") => `(tactic| (k_here; (with_reducible show wpAny _ _ (compareOp _ (Value.float _ _) (Value.float _ _)) _ _ _); k_dflt (refine' f_ne_ff ?hx ?hy ?hk ?hl ?_; (case hx => first | with_reducible rfl | exact lit_epoch | exact lit_half | exact lit_mul | exact lit_div); (case hy => first | with_reducible rfl | exact lit_epoch | exact lit_half | exact lit_mul | exact lit_div); (case hk => omega); (case hl => omega)); (try dsimp only)))
local macro_rules | `(tactic| walk_at "compareOp NotEq float int") => `(tactic| (k_here; (with_reducible show wpAny _ _ (compareOp _ (Value.float _ _) (Value.int _ _)) _ _ _); k_dflt (refine' f_ne_fi ?hx ?hk ?_; (case hx => first | with_reducible rfl | exact lit_epoch | exact lit_half | exact lit_mul | exact lit_div); (case hk => omega)); (try dsimp only)))
local macro_rules | `(tactic| walk_at "compareOp Eq float int") => `(tactic| (k_here; (with_reducible show wpAny _ _ (compareOp _ (Value.float _ _) (Value.int _ _)) _ _ _); k_dflt (refine' f_eq_fi ?hx ?hk ?_; (case hx => first | with_reducible rfl | exact lit_epoch | exact lit_half | exact lit_mul | exact lit_div); (case hk => omega)); (try dsimp only)))
local macro_rules | `(tactic| walk_at "call ref") => `(tactic| (k_here; (with_reducible show wpAny _ _ (call (Value.ref 49) [Value.int _ _]) _ _ _); k_dflt (refine' Claim.use (leap_claim _ _ _) ?k1 ?k2 ?k3 ?k4 ?k5 ?kK ?kd ?ku ?_; (case k1 => k_asm); (case k2 => k_asm); (case k3 => k_asm); (case k4 => k_asm); (case k5 => k_asm); (case kK => first | exact rfl | assumption); (case kd => ktr_room); (case ku => ktr_units)); (dsimp only [CbRet]); intro t9 h9 tk9 F9 N9; (try dsimp only); (try k_fold)))
local macro_rules | `(tactic| walk_at "call ref") => `(tactic| (k_here; (with_reducible show wpAny _ _ (call (Value.ref 56) [Value.int _ _]) _ _ _); k_dflt (refine' Claim.use (year_months_claim _ _ _) ?k1 ?k2 ?k3 ?k4 ?k5 ?kK ?kd ?ku ?_; (case k1 => k_asm); (case k2 => k_asm); (case k3 => k_asm); (case k4 => k_asm); (case k5 => k_asm); (case kK => first | exact rfl | assumption); (case kd => ktr_room); (case ku => ktr_units)); (dsimp only [CbRet]); intro t9 h9 tk9 F9 N9; (try dsimp only); (try k_fold)))
local macro_rules | `(tactic| walk_at "call ref") => `(tactic| (k_here; (with_reducible show wpAny _ _ (call (Value.ref 63) [Value.int _ _]) _ _ _); k_dflt (refine' Claim.use (delay_1_claim _ _ _ ?kp0 ?kp1) ?k1 ?k2 ?k3 ?k4 ?k5 ?kK ?kd ?ku ?_; (case k1 => k_asm); (case k2 => k_asm); (case k3 => k_asm); (case k4 => k_asm); (case k5 => k_asm); (case kK => first | exact rfl | assumption); (case kd => ktr_room); (case ku => ktr_units); (case kp0 => omega); (case kp1 => omega)); (dsimp only [CbRet]); intro t9 h9 tk9 F9 N9; (try dsimp only); (try k_fold)))
local macro_rules | `(tactic| walk_at "call ref") => `(tactic| (k_here; (with_reducible show wpAny _ _ (call (Value.ref 70) [Value.int _ _]) _ _ _); k_dflt (refine' Claim.use (delay_2_claim _ _ _ ?kp0 ?kp1) ?k1 ?k2 ?k3 ?k4 ?k5 ?kK ?kd ?ku ?_; (case k1 => k_asm); (case k2 => k_asm); (case k3 => k_asm); (case k4 => k_asm); (case k5 => k_asm); (case kK => first | exact rfl | assumption); (case kd => ktr_room); (case ku => ktr_units); (case kp0 => omega); (case kp1 => omega)); (dsimp only [CbRet]); intro t9 h9 tk9 F9 N9; (try dsimp only); (try k_fold)))
local macro_rules | `(tactic| walk_at "call ref") => `(tactic| (k_here; (with_reducible show wpAny _ _ (call (Value.ref 77) [Value.int _ _]) _ _ _); k_dflt (refine' Claim.use (year_days_claim _ _ _ ?kp0 ?kp1) ?k1 ?k2 ?k3 ?k4 ?k5 ?kK ?kd ?ku ?_; (case k1 => k_asm); (case k2 => k_asm); (case k3 => k_asm); (case k4 => k_asm); (case k5 => k_asm); (case kK => first | exact rfl | assumption); (case kd => ktr_room); (case ku => ktr_units); (case kp0 => omega); (case kp1 => omega)); (dsimp only [CbRet]); intro t9 h9 tk9 F9 N9; (try dsimp only); (try k_fold)))
local macro_rules | `(tactic| walk_at "call ref") => `(tactic| (k_here; (with_reducible show wpAny _ _ (call (Value.ref 84) [Value.int _ _, Value.int _ _]) _ _ _); k_dflt (refine' Claim.use (month_length_claim _ _ _ _ _ ?kp0 ?kp1 ?kp2 ?kp3) ?k1 ?k2 ?k3 ?k4 ?k5 ?kK ?kd ?ku ?_; (case k1 => k_asm); (case k2 => k_asm); (case k3 => k_asm); (case k4 => k_asm); (case k5 => k_asm); (case kK => first | exact rfl | assumption); (case kd => ktr_room); (case ku => ktr_units); (case kp0 => omega); (case kp1 => omega); (case kp2 => omega); (case kp3 => omega)); (dsimp only [CbRet]); intro t9 h9 tk9 F9 N9; (try dsimp only); (try k_fold)))
local macro_rules | `(tactic| walk_at "call ref") => `(tactic| (k_here; (with_reducible show wpAny _ _ (call (Value.ref 91) [Value.int _ _, Value.int _ _]) _ _ _); k_dflt (refine' Claim.use (month_days_claim _ _ _ _ _ ?kp0 ?kp1 ?kp2 ?kp3) ?k1 ?k2 ?k3 ?k4 ?k5 ?kK ?kd ?ku ?_; (case k1 => k_asm); (case k2 => k_asm); (case k3 => k_asm); (case k4 => k_asm); (case k5 => k_asm); (case kK => first | exact rfl | assumption); (case kd => ktr_room); (case ku => ktr_units); (case kp0 => omega); (case kp1 => omega); (case kp2 => omega); (case kp3 => omega)); (dsimp only [CbRet]); intro t9 h9 tk9 F9 N9; (try dsimp only); (try k_fold)))
local macro_rules | `(tactic| walk_at "call ref") => `(tactic| (k_here; (with_reducible show wpAny _ _ (call (Value.ref 98) [Value.int _ _, Value.int _ _, Value.int _ _]) _ _ _); k_dflt (refine' Claim.use (to_jd_claim _ _ _ _ _ _ _ ?kp0 ?kp1 ?kp2 ?kp3 ?kp4 ?kp5) ?k1 ?k2 ?k3 ?k4 ?k5 ?kK ?kd ?ku ?_; (case k1 => k_asm); (case k2 => k_asm); (case k3 => k_asm); (case k4 => k_asm); (case k5 => k_asm); (case kK => first | exact rfl | assumption); (case kd => ktr_room); (case ku => ktr_units); (case kp0 => omega); (case kp1 => omega); (case kp2 => omega); (case kp3 => omega); (case kp4 => omega); (case kp5 => omega)); (dsimp only [CbRet]); intro t9 h9 tk9 F9 N9; (try dsimp only); (try k_fold)))
local macro_rules | `(tactic| walk_at "call ref") => `(tactic| (k_here; (with_reducible show wpAny _ _ (call (Value.ref 98) [Value.int _ _, Value.int 7 _, Value.int _ _]) _ _ _); k_dflt (refine' Claim.use (to_jd7_claim _ _ _ _ _ _ ?kp0 ?kp1 ?kp2 ?kp3) ?k1 ?k2 ?k3 ?k4 ?k5 ?kK ?kd ?ku ?_; (case k1 => k_asm); (case k2 => k_asm); (case k3 => k_asm); (case k4 => k_asm); (case k5 => k_asm); (case kK => first | exact rfl | assumption); (case kd => ktr_room); (case ku => ktr_units); (case kp0 => omega); (case kp1 => omega); (case kp2 => omega); (case kp3 => omega)); (dsimp only [CbRet]); intro t9 h9 tk9 F9 N9; (try dsimp only); (try k_fold)))
local macro_rules | `(tactic| walk_at "exec While") => `(tactic| (k_here; (rename Fr _ _ _ _ => lF'); (rename News _ _ _ _ => lN'); (with_unfolding_all refine' while_month1 (by assumption) (Str.ofString "i") (Str.ofString "month") lF' lN' (by rfl) (by rfl) (by rfl) ?kp0 ?kp1 ?kp2 ?kp3 (fun k' t' u' h' tk' hk0' hk1' hk2' hk3' hk4' hk5' F' N' => ?_)); (case kp0 => omega); (case kp1 => omega); (case kp2 => omega); (case kp3 => omega); (try clear lF' lN'); (try k_fold)))
local macro_rules | `(tactic| walk_at "exec While") => `(tactic| (k_here; (rename Fr _ _ _ _ => lF'); (rename News _ _ _ _ => lN'); (with_unfolding_all refine' while_month7 (by assumption) (Str.ofString "i") (Str.ofString "month") lF' lN' (by rfl) (by rfl) (by rfl) ?kp0 ?kp1 (fun k' t' u' h' tk' hk0' hk1' hkm' hk2' hk3' hk4' hk5' F' N' => ?_)); (case kp0 => omega); (case kp1 => omega); (try clear lF' lN'); (try k_fold)))
local macro_rules | `(tactic| walk_at "exec While") => `(tactic| (k_here; (rename Fr _ _ _ _ => lF'); (rename News _ _ _ _ => lN'); (with_unfolding_all refine' while_year (by assumption) (Str.ofString "year") (Str.ofString "i") lF' lN' (by rfl) (by rfl) ?kp0 ?kp1 ?kp2 ?kp3 ?kp4 ?kp5 (fun Y' t' u' h' tk' hy0' hy1' hy2' hy3' hy4' hy5' hy6' F' N' => ?_)); (case kp0 => omega); (case kp1 => omega); (case kp2 => omega); (case kp3 => omega); (case kp4 => omega); (case kp5 => assumption); (try clear lF' lN'); (try k_fold)))
local macro_rules | `(tactic| walk_at "WEnd") => `(tactic| (refine' endW ?kF ?kN ?kS ?kx ?ky ?ka ?kb ?kR ?kP; (case kF => k_asm); (case kN => k_asm); (case kx => with_unfolding_all rfl); (case ky => with_unfolding_all rfl); (case ka => omega); (case kb => omega); (case kR => k_same2); (case kS => first | exact fun _ hp => hp | kcj_all); (case kP => exact ⟨by omega, by omega, by omega⟩)))
set_option maxHeartbeats 2000000 in
theorem from_jd_claim (w : World) (n : Int) (t : Tok) (h0 : 347998 ≤ n) (h1 : n ≤ 3700000000) : ClaimD w 105 10 80 [.float (Hf (2 * n - 1)) t] n := by
  have b1 := cnt_le h0 h1
  have b4 : Day n := Day.mk
  unfold ClaimD
  k_fill
  w_on
  intro loose mean mg mb dp un gd cn cs a ccd cl outer A₀ base h₀ L m news s Q E B F X N T hk hd hu hret
  dsimp only [RetD] at hret
  refine wpAny_call ?_
  k_dflt cell_enter
  k_steps
  all_goals (refine' retD hret ?kF ?kN ?kl ?kD; (case kF => k_asm); (case kN => k_asm); (case kl => assumption); (case kD => exact date_of (by omega) (by omega) (by assumption) (by assumption) (by omega) (by first | assumption | omega | exact Int.le_trans (by assumption) (ym_6 _)) (by omega) (by assumption)))
end Mine

open PySem PySem.W PyProof.Rows PySem.Spec PySem.Calls
set_option maxRecDepth 100000
set_option Elab.async false
namespace Mine
local macro_rules | `(tactic| walk_at "binaryOp Add float int") => `(tactic| (k_here; (with_reducible show wpAny _ _ (binaryOp _ (Value.float _ _) (Value.int _ _)) _ _ _); k_dflt (refine' f_add_fi ?hx ?hk ?hn ?hc ?_; (case hx => first | with_reducible rfl | exact lit_epoch | exact lit_half | exact lit_mul | exact lit_div); (case hk => omega); (case hn => omega); (case hc => omega)); (try dsimp only)))
local macro_rules | `(tactic| walk_at "binaryOp Add int float") => `(tactic| (k_here; (with_reducible show wpAny _ _ (binaryOp _ (Value.int _ _) (Value.float _ _)) _ _ _); k_dflt (refine' f_add_if ?hx ?hk ?hn ?hc ?_; (case hx => first | with_reducible rfl | exact lit_epoch | exact lit_half | exact lit_mul | exact lit_div); (case hk => omega); (case hn => omega); (case hc => omega)); (try dsimp only)))
local macro_rules | `(tactic| walk_at "binaryOp Sub int float") => `(tactic| (k_here; (with_reducible show wpAny _ _ (binaryOp _ (Value.int _ _) (Value.float _ _)) _ _ _); k_dflt (refine' f_sub_if ?hx ?hk ?hn ?hc ?_; (case hx => first | with_reducible rfl | exact lit_epoch | exact lit_half | exact lit_mul | exact lit_div); (case hk => omega); (case hn => omega); (case hc => omega)); (try dsimp only)))
local macro_rules | `(tactic| walk_at "inplaceOp Add float int") => `(tactic| (k_here; (with_reducible show wpAny _ _ (inplaceOp _ (Value.float _ _) (Value.int _ _)) _ _ _); k_dflt (refine' f_iadd_fi ?hx ?hk ?hn ?hc ?_; (case hx => first | with_reducible rfl | exact lit_epoch | exact lit_half | exact lit_mul | exact lit_div); (case hk => omega); (case hn => omega); (case hc => omega)); (try dsimp only)))
local macro_rules | `(tactic| walk_at "binaryOp Sub float float") => `(tactic| (k_here; (with_reducible show wpAny _ _ (binaryOp _ (Value.float _ _) (Value.float _ _)) _ _ _); k_dflt (refine' f_sub_ff ?hx ?hy ?hk ?hl ?hc ?_; (case hx => first | with_reducible rfl | exact lit_epoch | exact lit_half | exact lit_mul | exact lit_div); (case hy => first | with_reducible rfl | exact lit_epoch | exact lit_half | exact lit_mul | exact lit_div); (case hk => omega); (case hl => omega); (case hc => omega)); (try dsimp only)))
local macro_rules | `(tactic| walk_at "binaryOp Mult float float") => `(tactic| (k_here; (with_reducible show wpAny _ _ (binaryOp _ (Value.float _ _) (Value.float _ _)) _ _ _); k_dflt (refine' f_mul_ff ?hx ?hy ?h0 ?hk ?_; (case hx => first | with_reducible rfl | exact lit_epoch | exact lit_half | exact lit_mul | exact lit_div); (case hy => first | with_reducible rfl | exact lit_epoch | exact lit_half | exact lit_mul | exact lit_div); (case h0 => omega); (case hk => omega)); (try dsimp only)))
local macro_rules | `(tactic| walk_at "binaryOp Div int int") => `(tactic| (k_here; (with_reducible show wpAny _ _ (binaryOp _ (Value.int _ _) (Value.int 19 _)) _ _ _); k_dflt (refine' f_div_19 ?hn ?hq ?_; (case hn => omega); (case hq => omega)); intro z' fz'; (try dsimp only)))
local macro_rules | `(tactic| walk_at "binaryOp Div int int") => `(tactic| (k_here; (with_reducible show wpAny _ _ (binaryOp _ (Value.int _ _) (Value.int 25920 _)) _ _ _); k_dflt (refine' f_div_25920 ?hn ?hq ?_; (case hn => omega); (case hq => omega)); intro z' fz'; (try dsimp only)))
local macro_rules | `(tactic| walk_at "binaryOp Div float float") => `(tactic| (k_here; (with_reducible show wpAny _ _ (binaryOp _ (Value.float _ _) (Value.float _ _)) _ _ _); k_dflt (refine' f_div_ff ?hx ?hy ?h0 ?hk ?hq ?_; (case hx => first | with_reducible rfl | exact lit_epoch | exact lit_half | exact lit_mul | exact lit_div); (case hy => first | with_reducible rfl | exact lit_epoch | exact lit_half | exact lit_mul | exact lit_div); (case h0 => omega); (case hk => omega); (case hq => omega)); intro z' fz'; (try dsimp only)))
local macro_rules | `(tactic| walk_at "call builtin:math.floor") => `(tactic| (k_here; (with_reducible show wpAny _ _ (call _ [Value.float _ _]) _ _ _); k_dflt (refine' f_floor_h ?hA ?hx ?hk ?_; (case hA => rfl); (case hx => first | with_reducible rfl | exact lit_epoch | exact lit_half | exact lit_mul | exact lit_div); (case hk => omega)); (try dsimp only)))
local macro_rules | `(tactic| walk_at "call builtin:math.floor") => `(tactic| (k_here; (with_reducible show wpAny _ _ (call _ [Value.float _ _]) _ _ _); k_dflt (refine' f_floor_q ?hA ?hx ?_; (case hA => rfl); (case hx => assumption)); (try dsimp only)))
local macro_rules | `(tactic| walk_at "call type:int") => `(tactic| (k_here; (with_reducible show wpAny _ _ (call _ [Value.float _ _]) _ _ _); k_dflt (refine' f_int ?hA ?hx ?h0 ?hk ?_; (case hA => rfl); (case hx => first | with_reducible rfl | exact lit_epoch | exact lit_half | exact lit_mul | exact lit_div); (case h0 => omega); (case hk => omega)); (try dsimp only)))
local macro_rules | `(tactic| walk_at "binaryOp Mod float int") => `(tactic| (k_here; (with_reducible show wpAny _ _ (binaryOp _ (Value.float _ _) (Value.int _ _)) _ _ _); k_dflt (refine' f_mod_fi ?hx ?h0 ?hk ?h1 ?hn ?_; (case hx => with_reducible rfl); (case h0 => omega); (case hk => omega); (case h1 => decide); (case hn => decide)); (try dsimp only)))
local macro_rules | `(tactic| walk_at "compareOp Lt float float") => `(tactic| (k_here; (with_reducible show wpAny _ _ (compareOp _ (Value.float _ _) (Value.float _ _)) _ _ _); k_dflt (refine' f_lt_ff ?hx ?hy ?hk ?hl ?_; (case hx => first | with_reducible rfl | exact lit_epoch | exact lit_half | exact lit_mul | exact lit_div); (case hy => first | with_reducible rfl | exact lit_epoch | exact lit_half | exact lit_mul | exact lit_div); (case hk => omega); (case hl => omega)); (try dsimp only)))
local macro_rules | `(tactic| walk_at "compareOp Gt float float") => `(tactic| (k_here; (with_reducible show wpAny _ _ (compareOp _ (Value.float _ _) (Value.float _ _)) _ _ _); k_dflt (refine' f_gt_ff ?hx ?hy ?hk ?hl ?_; (case hx => first | with_reducible rfl | exact lit_epoch | exact lit_half | exact lit_mul | exact lit_div); (case hy => first | with_reducible rfl | exact lit_epoch | exact lit_half | exact lit_mul | exact lit_div); (case hk => omega); (case hl => omega)); (try dsimp only)))
local macro_rules | `(tactic| walk_at "compareOp GtE float float") => `(tactic| (k_here; (with_reducible show wpAny _ _ (compareOp _ (Value.float _ _) (Value.float _ _)) _ _ _); k_dflt (refine' f_ge_ff ?hx ?hy ?hk ?hl ?_; (case hx => first | with_reducible rfl | exact lit_epoch | exact lit_half | exact lit_mul | exact lit_div); (case hy => first | with_reducible rfl | exact lit_epoch | exact lit_half | exact lit_mul | exact lit_div); (case hk => omega); (case hl => omega)); (try dsimp only)))
local macro_rules | `(tactic| walk_at "compareOp NotEq float float") => `(tactic| (k_here; (with_reducible show wpAny _ _ (compareOp _ (Value.float _ _) (Value.float _ _)) _ _ _); k_dflt (refine' f_ne_ff ?hx ?hy ?hk ?hl ?_; (case hx => first | with_reducible rfl | exact lit_epoch | exact lit_half | exact lit_mul | exact lit_div); (case hy => first | with_reducible rfl | exact lit_epoch | exact lit_half | exact lit_mul | exact lit_div); (case hk => omega); (case hl => omega)); (try dsimp only)))
local macro_rules | `(tactic| walk_at "compareOp NotEq float int") => `(tactic| (k_here; (with_reducible show wpAny _ _ (compareOp _ (Value.float _ _) (Value.int _ _)) _ _ _); k_dflt (refine' f_ne_fi ?hx ?hk ?_; (case hx => first | with_reducible rfl | exact lit_epoch | exact lit_half | exact lit_mul | exact lit_div); (case hk => omega)); (try dsimp only)))
local macro_rules | `(tactic| walk_at "compareOp Eq float int") => `(tactic| (k_here; (with_reducible show wpAny _ _ (compareOp _ (Value.float _ _) (Value.int _ _)) _ _ _); k_dflt (refine' f_eq_fi ?hx ?hk ?_; (case hx => first | with_reducible rfl | exact lit_epoch | exact lit_half | exact lit_mul | exact lit_div); (case hk => omega)); (try dsimp only)))
local macro_rules | `(tactic| walk_at "call ref") => `(tactic| (k_here; (with_reducible show wpAny _ _ (call (Value.ref 49) [Value.int _ _]) _ _ _); k_dflt (refine' Claim.use (leap_claim _ _ _) ?k1 ?k2 ?k3 ?k4 ?k5 ?kK ?kd ?ku ?_; (case k1 => k_asm); (case k2 => k_asm); (case k3 => k_asm); (case k4 => k_asm); (case k5 => k_asm); (case kK => first | exact rfl | assumption); (case kd => ktr_room); (case ku => ktr_units)); (dsimp only [CbRet]); intro t9 h9 tk9 F9 N9; (try dsimp only); (try k_fold)))
local macro_rules | `(tactic| walk_at "call ref") => `(tactic| (k_here; (with_reducible show wpAny _ _ (call (Value.ref 56) [Value.int _ _]) _ _ _); k_dflt (refine' Claim.use (year_months_claim _ _ _) ?k1 ?k2 ?k3 ?k4 ?k5 ?kK ?kd ?ku ?_; (case k1 => k_asm); (case k2 => k_asm); (case k3 => k_asm); (case k4 => k_asm); (case k5 => k_asm); (case kK => first | exact rfl | assumption); (case kd => ktr_room); (case ku => ktr_units)); (dsimp only [CbRet]); intro t9 h9 tk9 F9 N9; (try dsimp only); (try k_fold)))
local macro_rules | `(tactic| walk_at "call ref") => `(tactic| (k_here; (with_reducible show wpAny _ _ (call (Value.ref 63) [Value.int _ _]) _ _ _); k_dflt (refine' Claim.use (delay_1_claim _ _ _ ?kp0 ?kp1) ?k1 ?k2 ?k3 ?k4 ?k5 ?kK ?kd ?ku ?_; (case k1 => k_asm); (case k2 => k_asm); (case k3 => k_asm); (case k4 => k_asm); (case k5 => k_asm); (case kK => first | exact rfl | assumption); (case kd => ktr_room); (case ku => ktr_units); (case kp0 => omega); (case kp1 => omega)); (dsimp only [CbRet]); intro t9 h9 tk9 F9 N9; (try dsimp only); (try k_fold)))
local macro_rules | `(tactic| walk_at "call ref") => `(tactic| (k_here; (with_reducible show wpAny _ _ (call (Value.ref 70) [Value.int _ _]) _ _ _); k_dflt (refine' Claim.use (delay_2_claim _ _ _ ?kp0 ?kp1) ?k1 ?k2 ?k3 ?k4 ?k5 ?kK ?kd ?ku ?_; (case k1 => k_asm); (case k2 => k_asm); (case k3 => k_asm); (case k4 => k_asm); (case k5 => k_asm); (case kK => first | exact rfl | assumption); (case kd => ktr_room); (case ku => ktr_units); (case kp0 => omega); (case kp1 => omega)); (dsimp only [CbRet]); intro t9 h9 tk9 F9 N9; (try dsimp only); (try k_fold)))
local macro_rules | `(tactic| walk_at "call ref") => `(tactic| (k_here; (with_reducible show wpAny _ _ (call (Value.ref 77) [Value.int _ _]) _ _ _); k_dflt (refine' Claim.use (year_days_claim _ _ _ ?kp0 ?kp1) ?k1 ?k2 ?k3 ?k4 ?k5 ?kK ?kd ?ku ?_; (case k1 => k_asm); (case k2 => k_asm); (case k3 => k_asm); (case k4 => k_asm); (case k5 => k_asm); (case kK => first | exact rfl | assumption); (case kd => ktr_room); (case ku => ktr_units); (case kp0 => omega); (case kp1 => omega)); (dsimp only [CbRet]); intro t9 h9 tk9 F9 N9; (try dsimp only); (try k_fold)))
local macro_rules | `(tactic| walk_at "call ref") => `(tactic| (k_here; (with_reducible show wpAny _ _ (call (Value.ref 84) [Value.int _ _, Value.int _ _]) _ _ _); k_dflt (refine' Claim.use (month_length_claim _ _ _ _ _ ?kp0 ?kp1 ?kp2 ?kp3) ?k1 ?k2 ?k3 ?k4 ?k5 ?kK ?kd ?ku ?_; (case k1 => k_asm); (case k2 => k_asm); (case k3 => k_asm); (case k4 => k_asm); (case k5 => k_asm); (case kK => first | exact rfl | assumption); (case kd => ktr_room); (case ku => ktr_units); (case kp0 => omega); (case kp1 => omega); (case kp2 => omega); (case kp3 => omega)); (dsimp only [CbRet]); intro t9 h9 tk9 F9 N9; (try dsimp only); (try k_fold)))
local macro_rules | `(tactic| walk_at "call ref") => `(tactic| (k_here; (with_reducible show wpAny _ _ (call (Value.ref 91) [Value.int _ _, Value.int _ _]) _ _ _); k_dflt (refine' Claim.use (month_days_claim _ _ _ _ _ ?kp0 ?kp1 ?kp2 ?kp3) ?k1 ?k2 ?k3 ?k4 ?k5 ?kK ?kd ?ku ?_; (case k1 => k_asm); (case k2 => k_asm); (case k3 => k_asm); (case k4 => k_asm); (case k5 => k_asm); (case kK => first | exact rfl | assumption); (case kd => ktr_room); (case ku => ktr_units); (case kp0 => omega); (case kp1 => omega); (case kp2 => omega); (case kp3 => omega)); (dsimp only [CbRet]); intro t9 h9 tk9 F9 N9; (try dsimp only); (try k_fold)))
local macro_rules | `(tactic| walk_at "call ref") => `(tactic| (k_here; (with_reducible show wpAny _ _ (call (Value.ref 98) [Value.int _ _, Value.int _ _, Value.int _ _]) _ _ _); k_dflt (refine' Claim.use (to_jd_claim _ _ _ _ _ _ _ ?kp0 ?kp1 ?kp2 ?kp3 ?kp4 ?kp5) ?k1 ?k2 ?k3 ?k4 ?k5 ?kK ?kd ?ku ?_; (case k1 => k_asm); (case k2 => k_asm); (case k3 => k_asm); (case k4 => k_asm); (case k5 => k_asm); (case kK => first | exact rfl | assumption); (case kd => ktr_room); (case ku => ktr_units); (case kp0 => omega); (case kp1 => omega); (case kp2 => omega); (case kp3 => omega); (case kp4 => omega); (case kp5 => omega)); (dsimp only [CbRet]); intro t9 h9 tk9 F9 N9; (try dsimp only); (try k_fold)))
local macro_rules | `(tactic| walk_at "call ref") => `(tactic| (k_here; (with_reducible show wpAny _ _ (call (Value.ref 98) [Value.int _ _, Value.int 7 _, Value.int _ _]) _ _ _); k_dflt (refine' Claim.use (to_jd7_claim _ _ _ _ _ _ ?kp0 ?kp1 ?kp2 ?kp3) ?k1 ?k2 ?k3 ?k4 ?k5 ?kK ?kd ?ku ?_; (case k1 => k_asm); (case k2 => k_asm); (case k3 => k_asm); (case k4 => k_asm); (case k5 => k_asm); (case kK => first | exact rfl | assumption); (case kd => ktr_room); (case ku => ktr_units); (case kp0 => omega); (case kp1 => omega); (case kp2 => omega); (case kp3 => omega)); (dsimp only [CbRet]); intro t9 h9 tk9 F9 N9; (try dsimp only); (try k_fold)))
local macro_rules | `(tactic| walk_at "call ref") => `(tactic| (k_here; (with_reducible show wpAny _ _ (call (Value.ref 112) _) _ _ _); (refine wpAny_call ?_); k_dflt (refine' code_def ?k1 ?k2 ?k3 ?k4 ?k5 ?kA ?kF ?kK ?k6 ?k7 ?k8 ?k9 ?kB ?_ ?c2 ?c3 ?c4 ?c5; (case kA => exact rfl); (case kF => exact rfl); (case kK => first | exact rfl | assumption); (case k1 => k_asm); (case k2 => k_asm); (case k3 => k_asm); (case k4 => k_asm); (case k5 => k_asm); (case k6 => k_is); (case k7 => k_is); (case k8 => ktr_room); (case k9 => exact BindsTo.of_eq rfl); (case c5 => decide); (case kB => exact locs rfl); (case c2 => exact rfl); (case c3 => exact rfl); (case c4 => exact rfl); k_whole; intro g' L' h' FG' F' N' B' X' T'; (try dsimp only); (try k_lift B'); (try k_fold))))
set_option maxHeartbeats 2000000 in
theorem long_claim (w : World) (y : Int) (t : Tok) : Claim w 119 2 16 [.int y t] (fun _ => .bool (lp y)) := by
  unfold Claim
  k_fill
  w_on
  intro loose mean mg mb dp un gd cn cs a ccd cl outer A₀ base h₀ L m news s Q E B F X N T hk hd hu hret
  dsimp only [CbRet] at hret
  refine wpAny_call ?_
  k_dflt cell_enter
  k_steps
  all_goals (refine' retB hret ?kF ?kN ?kS ?kE; (case kF => k_asm); (case kN => k_asm); (case kS => first | exact fun _ hp => hp | kcj_all); (case kE => exact long_eq y))
local macro_rules | `(tactic| walk_at "call ref") => `(tactic| (k_here; (with_reducible show wpAny _ _ (call (Value.ref 119) [Value.int _ _]) _ _ _); k_dflt (refine' Claim.use (long_claim _ _ _) ?k1 ?k2 ?k3 ?k4 ?k5 ?kK ?kd ?ku ?_; (case k1 => k_asm); (case k2 => k_asm); (case k3 => k_asm); (case k4 => k_asm); (case k5 => k_asm); (case kK => first | exact rfl | assumption); (case kd => ktr_room); (case ku => ktr_units)); (dsimp only [CbRet]); intro t9 h9 tk9 F9 N9; (try dsimp only); (try k_fold)))
set_option maxHeartbeats 2000000 in
theorem longs_claim (w : World) : ClaimL w 112 1 8 := by
  unfold ClaimL
  k_fill
  w_on
  intro loose mean mg mb dp un gd cn cs a ccd cl outer A₀ base h₀ L m news s Q E B F X N T hk hd hu hret
  dsimp only [RetL] at hret
  refine wpAny_call ?_
  k_dflt cell_enter
  k_steps
  all_goals (refine' retL hret ?kF ?kN ?kl ?ki; (case kF => k_asm); (case kN => k_asm); (case kl => assumption); (case ki => exact .cons _ _ (.cons _ _ (.cons _ _ (.cons _ _ (.cons _ _ (.cons _ _ (.cons _ _ .nil))))))))
set_option maxHeartbeats 2000000 in
theorem rule_claim (w : World) (y D P : Int) (t u v : Tok) : Claim w 131 3 24 [.int y t, .int D u, .int P v] (fun t => .int (ruleI y D P) t) := by
  unfold Claim
  k_fill
  w_on
  intro loose mean mg mb dp un gd cn cs a ccd cl outer A₀ base h₀ L m news s Q E B F X N T hk hd hu hret
  dsimp only [CbRet] at hret
  refine wpAny_call ?_
  k_dflt cell_enter
  k_steps
  all_goals (refine' retI hret ?kF ?kN ?kS ?kE; (case kF => k_asm); (case kN => k_asm); (case kS => first | exact fun _ hp => hp | kcj_all); (case kE => (unfold ruleI; (repeat' split) <;> first | rfl | omega | simp_all)))
local macro_rules | `(tactic| walk_at "call ref") => `(tactic| (k_here; (with_reducible show wpAny _ _ (call (Value.ref 112) _) _ _ _); k_dflt (refine' ClaimL.use (longs_claim _) ?k1 ?k2 ?k3 ?k4 ?k5 ?kK ?kd ?ku ?_; (case k1 => k_asm); (case k2 => k_asm); (case k3 => k_asm); (case k4 => k_asm); (case k5 => k_asm); (case kK => first | exact rfl | assumption); (case kd => ktr_room); (case ku => ktr_units)); (dsimp only [RetL]); intro vs9 a9 h9 tk9 iv9 F9 N9 l1; (try k_lt l1); (try dsimp only); (try k_fold)))
local macro_rules | `(tactic| walk_at "storeName") => `(tactic| (k_here; k_dflt (refine' storeCell1 (news₀ := []) ?F ?N ?c ?m ?d ?sub ?lt ?_ ?a ?b; (case a => rfl); (case b => rfl); (case F => k_asm); (case N => k_asm); (case c => rfl); (case m => k_mem); (case d => k_asm); (case lt => exact fun _ hp => nomatch hp); (case sub => exact fun _ hp => nomatch hp)); intro h' o' F' N' d'; (try k_sweep)))
local macro_rules | `(tactic| walk_at "CompSrcT") => `(tactic| (k_here; k_dflt (refine LCt.CompSrcT.ledger (by rfl) (by k_asm) (by k_asm) (by k_mem) (longs_size (by assumption)) ?_; intro g'; (refine' kci_past (by assumption) (by assumption) (fun k' t' I' oI' C' oC' D' m' ys' l' h' tk' E' hI' hC' hx' F' N' off' ne' => ?_) (fun ys' hl' hs' => ?_)); (all_goals (try (simp only [LCg.Off3, and_true] at off'))))))
local macro_rules | `(tactic| walk_at "KCiEl") => `(tactic| (refine kci_el (if_pos ?kce) (by with_unfolding_all rfl) (by with_unfolding_all rfl); (case kce => first | assumption | omega)))
local macro_rules | `(tactic| walk_at "KCiNo") => `(tactic| (refine kci_no (if_neg ?kce) (by with_unfolding_all rfl); (case kce => first | assumption | omega)))
local macro_rules | `(tactic| walk_at "call builtin:len") => `(tactic| (k_here; (with_reducible show wpAny _ _ (call (Value.builtin "len") [Value.ref _]) _ _ _); k_dflt (refine' len_ys ?N ?m ?c ?s ?_; (case N => k_asm); (case m => k_mem); (case c => assumption); (case s => assumption)); (try dsimp only)))
set_option maxHeartbeats 2000000 in
theorem moon_claim (w : World) (y : Int) (t : Tok) (h0 : 1 ≤ y) (h1 : y ≤ 11000000) : ClaimQ w 124 3 24 [.int y t] y := by
  have hP : Past ((y - 1).fmod 19) := Past.mk
  unfold ClaimQ
  k_fill
  w_on
  intro loose mean mg mb dp un gd cn cs a ccd cl outer A₀ base h₀ L m news s Q E B F X N T hk hd hu hret
  dsimp only [RetQ] at hret
  refine wpAny_call ?_
  k_dflt (refine' code_defC0 ?k1 ?k2 ?k3 ?k5 ?kA ?kF ?kK ?k6 ?k7 ?k8 ?k9 ?kB ?kD ?_ ?c2 ?c3 ?c4; (case kA => exact rfl); (case kF => exact rfl); (case kK => first | exact rfl | assumption); (case k1 => k_asm); (case k2 => k_asm); (case k3 => k_asm); (case k5 => k_asm); (case k6 => k_is); (case k7 => k_is); (case k8 => ktr_room); (case k9 => exact BindsTo.of_eq rfl); (case kB => exact rfl); (case kD => decide +kernel); (case c2 => exact rfl); (case c3 => exact rfl); (case c4 => exact rfl); k_whole; intro g' L' h' tk' cells' st' FG' F' N' Y' B' X' T'; k_cells Y'; (try simp only [List.cons_append, List.nil_append] at N'); (try dsimp only); (try k_lift B'); (try k_fold))
  k_steps
  all_goals (refine' retQ hret N ?kF ?kM ?kS ?kl ?ka ?kb; (case kF => k_asm); (case kM => k_asm); (case kS => exact Keeps.trans (by assumption) (Fr.keep (by k_asm))); (case kl => k_mem); (case ka => exact (moon_eq y).1); (case kb => exact (moon_eq y).2))
end Mine

open PySem PySem.W PyProof.Rows PySem.Spec PySem.Calls
set_option maxRecDepth 100000
set_option Elab.async false
namespace Mine
local macro_rules | `(tactic| walk_at "binaryOp Add float int") => `(tactic| (k_here; (with_reducible show wpAny _ _ (binaryOp _ (Value.float _ _) (Value.int _ _)) _ _ _); k_dflt (refine' f_add_fi ?hx ?hk ?hn ?hc ?_; (case hx => first | with_reducible rfl | exact lit_epoch | exact lit_half | exact lit_mul | exact lit_div); (case hk => omega); (case hn => omega); (case hc => omega)); (try dsimp only)))
local macro_rules | `(tactic| walk_at "binaryOp Add int float") => `(tactic| (k_here; (with_reducible show wpAny _ _ (binaryOp _ (Value.int _ _) (Value.float _ _)) _ _ _); k_dflt (refine' f_add_if ?hx ?hk ?hn ?hc ?_; (case hx => first | with_reducible rfl | exact lit_epoch | exact lit_half | exact lit_mul | exact lit_div); (case hk => omega); (case hn => omega); (case hc => omega)); (try dsimp only)))
local macro_rules | `(tactic| walk_at "binaryOp Sub int float") => `(tactic| (k_here; (with_reducible show wpAny _ _ (binaryOp _ (Value.int _ _) (Value.float _ _)) _ _ _); k_dflt (refine' f_sub_if ?hx ?hk ?hn ?hc ?_; (case hx => first | with_reducible rfl | exact lit_epoch | exact lit_half | exact lit_mul | exact lit_div); (case hk => omega); (case hn => omega); (case hc => omega)); (try dsimp only)))
local macro_rules | `(tactic| walk_at "inplaceOp Add float int") => `(tactic| (k_here; (with_reducible show wpAny _ _ (inplaceOp _ (Value.float _ _) (Value.int _ _)) _ _ _); k_dflt (refine' f_iadd_fi ?hx ?hk ?hn ?hc ?_; (case hx => first | with_reducible rfl | exact lit_epoch | exact lit_half | exact lit_mul | exact lit_div); (case hk => omega); (case hn => omega); (case hc => omega)); (try dsimp only)))
local macro_rules | `(tactic| walk_at "binaryOp Sub float float") => `(tactic| (k_here; (with_reducible show wpAny _ _ (binaryOp _ (Value.float _ _) (Value.float _ _)) _ _ _); k_dflt (refine' f_sub_ff ?hx ?hy ?hk ?hl ?hc ?_; (case hx => first | with_reducible rfl | exact lit_epoch | exact lit_half | exact lit_mul | exact lit_div); (case hy => first | with_reducible rfl | exact lit_epoch | exact lit_half | exact lit_mul | exact lit_div); (case hk => omega); (case hl => omega); (case hc => omega)); (try dsimp only)))
local macro_rules | `(tactic| walk_at "binaryOp Mult float float") => `(tactic| (k_here; (with_reducible show wpAny _ _ (binaryOp _ (Value.float _ _) (Value.float _ _)) _ _ _); k_dflt (refine' f_mul_ff ?hx ?hy ?h0 ?hk ?_; (case hx => first | with_reducible rfl | exact lit_epoch | exact lit_half | exact lit_mul | exact lit_div); (case hy => first | with_reducible rfl | exact lit_epoch | exact lit_half | exact lit_mul | exact lit_div); (case h0 => omega); (case hk => omega)); (try dsimp only)))
local macro_rules | `(tactic| walk_at "binaryOp Div int int") => `(tactic| (k_here; (with_reducible show wpAny _ _ (binaryOp _ (Value.int _ _) (Value.int 19 _)) _ _ _); k_dflt (refine' f_div_19 ?hn ?hq ?_; (case hn => omega); (case hq => omega)); intro z' fz'; (try dsimp only)))
local macro_rules | `(tactic| walk_at "binaryOp Div int int") => `(tactic| (k_here; (with_reducible show wpAny _ _ (binaryOp _ (Value.int _ _) (Value.int 25920 _)) _ _ _); k_dflt (refine' f_div_25920 ?hn ?hq ?_; (case hn => omega); (case hq => omega)); intro z' fz'; (try dsimp only)))
local macro_rules | `(tactic| walk_at "binaryOp Div float float") => `(tactic| (k_here; (with_reducible show wpAny _ _ (binaryOp _ (Value.float _ _) (Value.float _ _)) _ _ _); k_dflt (refine' f_div_ff ?hx ?hy ?h0 ?hk ?hq ?_; (case hx => first | with_reducible rfl | exact lit_epoch | exact lit_half | exact lit_mul | exact lit_div); (case hy => first | with_reducible rfl | exact lit_epoch | exact lit_half | exact lit_mul | exact lit_div); (case h0 => omega); (case hk => omega); (case hq => omega)); intro z' fz'; (try dsimp only)))
local macro_rules | `(tactic| walk_at "call builtin:math.floor") => `(tactic| (k_here; (with_reducible show wpAny _ _ (call _ [Value.float _ _]) _ _ _); k_dflt (refine' f_floor_h ?hA ?hx ?hk ?_; (case hA => rfl); (case hx => first | with_reducible rfl | exact lit_epoch | exact lit_half | exact lit_mul | exact lit_div); (case hk => omega)); (try dsimp only)))
local macro_rules | `(tactic| walk_at "call builtin:math.floor") => `(tactic| (k_here; (with_reducible show wpAny _ _ (call _ [Value.float _ _]) _ _ _); k_dflt (refine' f_floor_q ?hA ?hx ?_; (case hA => rfl); (case hx => assumption)); (try dsimp only)))
local macro_rules | `(tactic| walk_at "call type:int") => `(tactic| (k_here; (with_reducible show wpAny _ _ (call _ [Value.float _ _]) _ _ _); k_dflt (refine' f_int ?hA ?hx ?h0 ?hk ?_; (case hA => rfl); (case hx => first | with_reducible rfl | exact lit_epoch | exact lit_half | exact lit_mul | exact lit_div); (case h0 => omega); (case hk => omega)); (try dsimp only)))
local macro_rules | `(tactic| walk_at "binaryOp Mod float int") => `(tactic| (k_here; (with_reducible show wpAny _ _ (binaryOp _ (Value.float _ _) (Value.int _ _)) _ _ _); k_dflt (refine' f_mod_fi ?hx ?h0 ?hk ?h1 ?hn ?_; (case hx => with_reducible rfl); (case h0 => omega); (case hk => omega); (case h1 => decide); (case hn => decide)); (try dsimp only)))
local macro_rules | `(tactic| walk_at "compareOp Lt float float") => `(tactic| (k_here; (with_reducible show wpAny _ _ (compareOp _ (Value.float _ _) (Value.float _ _)) _ _ _); k_dflt (refine' f_lt_ff ?hx ?hy ?hk ?hl ?_; (case hx => first | with_reducible rfl | exact lit_epoch | exact lit_half | exact lit_mul | exact lit_div); (case hy => first | with_reducible rfl | exact lit_epoch | exact lit_half | exact lit_mul | exact lit_div); (case hk => omega); (case hl => omega)); (try dsimp only)))
local macro_rules | `(tactic| walk_at "compareOp Gt float float") => `(tactic| (k_here; (with_reducible show wpAny _ _ (compareOp _ (Value.float _ _) (Value.float _ _)) _ _ _); k_dflt (refine' f_gt_ff ?hx ?hy ?hk ?hl ?_; (case hx => first | with_reducible rfl | exact lit_epoch | exact lit_half | exact lit_mul | exact lit_div); (case hy => first | with_reducible rfl | exact lit_epoch | exact lit_half | exact lit_mul | exact lit_div); (case hk => omega); (case hl => omega)); (try dsimp only)))
local macro_rules | `(tactic| walk_at "compareOp GtE float float") => `(tactic| (k_here; (with_reducible show wpAny _ _ (compareOp _ (Value.float _ _) (Value.float _ _)) _ _ _); k_dflt (refine' f_ge_ff ?hx ?hy ?hk ?hl ?_; (case hx => first | with_reducible rfl | exact lit_epoch | exact lit_half | exact lit_mul | exact lit_div); (case hy => first | with_reducible rfl | exact lit_epoch | exact lit_half | exact lit_mul | exact lit_div); (case hk => omega); (case hl => omega)); (try dsimp only)))
local macro_rules | `(tactic| walk_at "compareOp NotEq float float") => `(tactic| (k_here; (with_reducible show wpAny _ _ (compareOp _ (Value.float _ _) (Value.float _ _)) _ _ _); k_dflt (refine' f_ne_ff ?hx ?hy ?hk ?hl ?_; (case hx => first | with_reducible rfl | exact lit_epoch | exact lit_half | exact lit_mul | exact lit_div); (case hy => first | with_reducible rfl | exact lit_epoch | exact lit_half | exact lit_mul | exact lit_div); (case hk => omega); (case hl => omega)); (try dsimp only)))
local macro_rules | `(tactic| walk_at "compareOp NotEq float int") => `(tactic| (k_here; (with_reducible show wpAny _ _ (compareOp _ (Value.float _ _) (Value.int _ _)) _ _ _); k_dflt (refine' f_ne_fi ?hx ?hk ?_; (case hx => first | with_reducible rfl | exact lit_epoch | exact lit_half | exact lit_mul | exact lit_div); (case hk => omega)); (try dsimp only)))
local macro_rules | `(tactic| walk_at "compareOp Eq float int") => `(tactic| (k_here; (with_reducible show wpAny _ _ (compareOp _ (Value.float _ _) (Value.int _ _)) _ _ _); k_dflt (refine' f_eq_fi ?hx ?hk ?_; (case hx => first | with_reducible rfl | exact lit_epoch | exact lit_half | exact lit_mul | exact lit_div); (case hk => omega)); (try dsimp only)))
local macro_rules | `(tactic| walk_at "call ref") => `(tactic| (k_here; (with_reducible show wpAny _ _ (call (Value.ref 49) [Value.int _ _]) _ _ _); k_dflt (refine' Claim.use (leap_claim _ _ _) ?k1 ?k2 ?k3 ?k4 ?k5 ?kK ?kd ?ku ?_; (case k1 => k_asm); (case k2 => k_asm); (case k3 => k_asm); (case k4 => k_asm); (case k5 => k_asm); (case kK => first | exact rfl | assumption); (case kd => ktr_room); (case ku => ktr_units)); (dsimp only [CbRet]); intro t9 h9 tk9 F9 N9; (try dsimp only); (try k_fold)))
local macro_rules | `(tactic| walk_at "call ref") => `(tactic| (k_here; (with_reducible show wpAny _ _ (call (Value.ref 56) [Value.int _ _]) _ _ _); k_dflt (refine' Claim.use (year_months_claim _ _ _) ?k1 ?k2 ?k3 ?k4 ?k5 ?kK ?kd ?ku ?_; (case k1 => k_asm); (case k2 => k_asm); (case k3 => k_asm); (case k4 => k_asm); (case k5 => k_asm); (case kK => first | exact rfl | assumption); (case kd => ktr_room); (case ku => ktr_units)); (dsimp only [CbRet]); intro t9 h9 tk9 F9 N9; (try dsimp only); (try k_fold)))
local macro_rules | `(tactic| walk_at "call ref") => `(tactic| (k_here; (with_reducible show wpAny _ _ (call (Value.ref 63) [Value.int _ _]) _ _ _); k_dflt (refine' Claim.use (delay_1_claim _ _ _ ?kp0 ?kp1) ?k1 ?k2 ?k3 ?k4 ?k5 ?kK ?kd ?ku ?_; (case k1 => k_asm); (case k2 => k_asm); (case k3 => k_asm); (case k4 => k_asm); (case k5 => k_asm); (case kK => first | exact rfl | assumption); (case kd => ktr_room); (case ku => ktr_units); (case kp0 => omega); (case kp1 => omega)); (dsimp only [CbRet]); intro t9 h9 tk9 F9 N9; (try dsimp only); (try k_fold)))
local macro_rules | `(tactic| walk_at "call ref") => `(tactic| (k_here; (with_reducible show wpAny _ _ (call (Value.ref 70) [Value.int _ _]) _ _ _); k_dflt (refine' Claim.use (delay_2_claim _ _ _ ?kp0 ?kp1) ?k1 ?k2 ?k3 ?k4 ?k5 ?kK ?kd ?ku ?_; (case k1 => k_asm); (case k2 => k_asm); (case k3 => k_asm); (case k4 => k_asm); (case k5 => k_asm); (case kK => first | exact rfl | assumption); (case kd => ktr_room); (case ku => ktr_units); (case kp0 => omega); (case kp1 => omega)); (dsimp only [CbRet]); intro t9 h9 tk9 F9 N9; (try dsimp only); (try k_fold)))
local macro_rules | `(tactic| walk_at "call ref") => `(tactic| (k_here; (with_reducible show wpAny _ _ (call (Value.ref 77) [Value.int _ _]) _ _ _); k_dflt (refine' Claim.use (year_days_claim _ _ _ ?kp0 ?kp1) ?k1 ?k2 ?k3 ?k4 ?k5 ?kK ?kd ?ku ?_; (case k1 => k_asm); (case k2 => k_asm); (case k3 => k_asm); (case k4 => k_asm); (case k5 => k_asm); (case kK => first | exact rfl | assumption); (case kd => ktr_room); (case ku => ktr_units); (case kp0 => omega); (case kp1 => omega)); (dsimp only [CbRet]); intro t9 h9 tk9 F9 N9; (try dsimp only); (try k_fold)))
local macro_rules | `(tactic| walk_at "call ref") => `(tactic| (k_here; (with_reducible show wpAny _ _ (call (Value.ref 84) [Value.int _ _, Value.int _ _]) _ _ _); k_dflt (refine' Claim.use (month_length_claim _ _ _ _ _ ?kp0 ?kp1 ?kp2 ?kp3) ?k1 ?k2 ?k3 ?k4 ?k5 ?kK ?kd ?ku ?_; (case k1 => k_asm); (case k2 => k_asm); (case k3 => k_asm); (case k4 => k_asm); (case k5 => k_asm); (case kK => first | exact rfl | assumption); (case kd => ktr_room); (case ku => ktr_units); (case kp0 => omega); (case kp1 => omega); (case kp2 => omega); (case kp3 => omega)); (dsimp only [CbRet]); intro t9 h9 tk9 F9 N9; (try dsimp only); (try k_fold)))
local macro_rules | `(tactic| walk_at "call ref") => `(tactic| (k_here; (with_reducible show wpAny _ _ (call (Value.ref 91) [Value.int _ _, Value.int _ _]) _ _ _); k_dflt (refine' Claim.use (month_days_claim _ _ _ _ _ ?kp0 ?kp1 ?kp2 ?kp3) ?k1 ?k2 ?k3 ?k4 ?k5 ?kK ?kd ?ku ?_; (case k1 => k_asm); (case k2 => k_asm); (case k3 => k_asm); (case k4 => k_asm); (case k5 => k_asm); (case kK => first | exact rfl | assumption); (case kd => ktr_room); (case ku => ktr_units); (case kp0 => omega); (case kp1 => omega); (case kp2 => omega); (case kp3 => omega)); (dsimp only [CbRet]); intro t9 h9 tk9 F9 N9; (try dsimp only); (try k_fold)))
local macro_rules | `(tactic| walk_at "call ref") => `(tactic| (k_here; (with_reducible show wpAny _ _ (call (Value.ref 98) [Value.int _ _, Value.int _ _, Value.int _ _]) _ _ _); k_dflt (refine' Claim.use (to_jd_claim _ _ _ _ _ _ _ ?kp0 ?kp1 ?kp2 ?kp3 ?kp4 ?kp5) ?k1 ?k2 ?k3 ?k4 ?k5 ?kK ?kd ?ku ?_; (case k1 => k_asm); (case k2 => k_asm); (case k3 => k_asm); (case k4 => k_asm); (case k5 => k_asm); (case kK => first | exact rfl | assumption); (case kd => ktr_room); (case ku => ktr_units); (case kp0 => omega); (case kp1 => omega); (case kp2 => omega); (case kp3 => omega); (case kp4 => omega); (case kp5 => omega)); (dsimp only [CbRet]); intro t9 h9 tk9 F9 N9; (try dsimp only); (try k_fold)))
local macro_rules | `(tactic| walk_at "call ref") => `(tactic| (k_here; (with_reducible show wpAny _ _ (call (Value.ref 98) [Value.int _ _, Value.int 7 _, Value.int _ _]) _ _ _); k_dflt (refine' Claim.use (to_jd7_claim _ _ _ _ _ _ ?kp0 ?kp1 ?kp2 ?kp3) ?k1 ?k2 ?k3 ?k4 ?k5 ?kK ?kd ?ku ?_; (case k1 => k_asm); (case k2 => k_asm); (case k3 => k_asm); (case k4 => k_asm); (case k5 => k_asm); (case kK => first | exact rfl | assumption); (case kd => ktr_room); (case ku => ktr_units); (case kp0 => omega); (case kp1 => omega); (case kp2 => omega); (case kp3 => omega)); (dsimp only [CbRet]); intro t9 h9 tk9 F9 N9; (try dsimp only); (try k_fold)))
local macro_rules | `(tactic| walk_at "call ref") => `(tactic| (k_here; (with_reducible show wpAny _ _ (call (Value.ref 119) [Value.int _ _]) _ _ _); k_dflt (refine' Claim.use (long_claim _ _ _) ?k1 ?k2 ?k3 ?k4 ?k5 ?kK ?kd ?ku ?_; (case k1 => k_asm); (case k2 => k_asm); (case k3 => k_asm); (case k4 => k_asm); (case k5 => k_asm); (case kK => first | exact rfl | assumption); (case kd => ktr_room); (case ku => ktr_units)); (dsimp only [CbRet]); intro t9 h9 tk9 F9 N9; (try dsimp only); (try k_fold)))
local macro_rules | `(tactic| walk_at "call ref") => `(tactic| (k_here; (with_reducible show wpAny _ _ (call (Value.ref 124) [Value.int _ _]) _ _ _); k_dflt (refine' ClaimQ.use (moon_claim _ _ _ ?kp0 ?kp1) ?k1 ?k2 ?k3 ?k4 ?k5 ?kK ?kd ?ku ?_; (case k1 => k_asm); (case k2 => k_asm); (case k3 => k_asm); (case k4 => k_asm); (case k5 => k_asm); (case kK => first | exact rfl | assumption); (case kd => ktr_room); (case ku => ktr_units); (case kp0 => omega); (case kp1 => omega)); (dsimp only [RetQ]); intro t9 u9 a9 h9 tk9 F9 N9; (try dsimp only); (try k_fold)))
theorem rule_claim2 (w : World) (y : Int) (t u v : Tok) : Claim w 131 3 24 [.int y t, .int (pt y / 25920) u, .int (pt y % 25920) v] (fun t => .int (d2 y) t) := by
  have h := rule_claim w y (pt y / 25920) (pt y % 25920) t u v
  rw [rule_d2] at h
  exact h
local macro_rules | `(tactic| walk_at "call ref") => `(tactic| (k_here; (with_reducible show wpAny _ _ (call (Value.ref 131) [Value.int _ _, Value.int _ _, Value.int _ _]) _ _ _); k_dflt (refine' Claim.use (rule_claim2 _ _ _ _ _) ?k1 ?k2 ?k3 ?k4 ?k5 ?kK ?kd ?ku ?_; (case k1 => k_asm); (case k2 => k_asm); (case k3 => k_asm); (case k4 => k_asm); (case k5 => k_asm); (case kK => first | exact rfl | assumption); (case kd => ktr_room); (case ku => ktr_units)); (dsimp only [CbRet]); intro t9 h9 tk9 F9 N9; (try dsimp only); (try k_fold)))
set_option maxHeartbeats 2000000 in
theorem law_ny_claim (w : World) (y : Int) (t : Tok) (h0 : 1 ≤ y) (h1 : y ≤ 11000000) : Claim w 138 5 40 [.int y t] (fun t => .int (347998 + ny y) t) := by
  unfold Claim
  k_fill
  w_on
  intro loose mean mg mb dp un gd cn cs a ccd cl outer A₀ base h₀ L m news s Q E B F X N T hk hd hu hret
  dsimp only [CbRet] at hret
  refine wpAny_call ?_
  k_dflt cell_enter
  k_steps
  all_goals (refine' retI hret ?kF ?kN ?kS ?kE; (case kF => k_asm); (case kN => k_asm); (case kS => first | exact fun _ hp => hp | kcj_all); (case kE => (refine congrArg (fun z => 347998 + z) (Eq.trans ?_ (ny_rule y)); unfold lawH; (repeat' split) <;> first | rfl | (exfalso; omega) | (exfalso; exact any_abs (by assumption) (by assumption)) | contradiction | (exfalso; simp_all; omega))))
end Mine

open PySem PySem.W PyProof.Rows PySem.Spec PySem.Calls
set_option maxRecDepth 100000
set_option Elab.async false
namespace Mine
theorem from_jd_first {w : World} {y : Int} {t : Tok} (h0 : 1 ≤ y) (h1 : y ≤ 10001000) {loose : List Str} {mean : ExcName → Option Value} {mg mb : Str → Option Value} {dp un : Nat} {gd : Option (List Code)} {cn : Str} {cs : Scope} {a : Addr} {ccd : Value} {cl : List (Str × Addr)} {outer : List Env} {A₀ : Around} {base h₀ : Heap} {L : Addr} {m : Str → Option Value} {news : List (Addr × Obj)} {s : Shared} {Q E : Value → Shared → Prop}
    (B : Below A₀ base outer h₀) (F : Fr h₀ L s.heap m) (X : (Mine.hd.heap_39 w.params).In h₀) (N : News h₀ L s.heap news) (T : Top Mine.hd.view_39 loose mean mg mb h₀) (hk : cs.kind = .function) (hd : dp + 10 < recursionLimit) (hu : un + 80 < cLine) (ret : RetT3 h₀ L m news s Q y 7 1) :
      wpAny (model PySem.Challenge.rw_ak5002_02.row.prog w) (ktrTop dp un gd cn cs L a ccd cl outer) (call (.ref 105) [.float (Hf (2 * (347998 + ny y) - 1)) t]) Q E s := by
  have hl := ny_law h0
  refine ClaimD.use (from_jd_claim w (347998 + ny y) t (by omega) (by omega)) B F X N T hk hd hu ?_
  intro Y k d t u v a h' tk' D F' N' l
  obtain ⟨e1, e2, e3⟩ := date_first D (by omega) (by omega)
  subst e1; subst e2; subst e3
  exact ret t u v a h' tk' F' N' l
theorem from_jd_last {w : World} {y : Int} {t : Tok} (h0 : 2 ≤ y) (h1 : y ≤ 10001000) {loose : List Str} {mean : ExcName → Option Value} {mg mb : Str → Option Value} {dp un : Nat} {gd : Option (List Code)} {cn : Str} {cs : Scope} {a : Addr} {ccd : Value} {cl : List (Str × Addr)} {outer : List Env} {A₀ : Around} {base h₀ : Heap} {L : Addr} {m : Str → Option Value} {news : List (Addr × Obj)} {s : Shared} {Q E : Value → Shared → Prop}
    (B : Below A₀ base outer h₀) (F : Fr h₀ L s.heap m) (X : (Mine.hd.heap_39 w.params).In h₀) (N : News h₀ L s.heap news) (T : Top Mine.hd.view_39 loose mean mg mb h₀) (hk : cs.kind = .function) (hd : dp + 10 < recursionLimit) (hu : un + 80 < cLine) (ret : RetT3 h₀ L m news s Q (y - 1) 6 29) :
      wpAny (model PySem.Challenge.rw_ak5002_02.row.prog w) (ktrTop dp un gd cn cs L a ccd cl outer) (call (.ref 105) [.float (Hf (2 * (347998 + ny y) - 3)) t]) Q E s := by
  have hl := ny_law (y := y) (by omega)
  have hn := ny_next (y := y - 1) (by omega) (by omega)
  rw [Int.sub_add_cancel] at hn
  have hl1 := ny_law (y := y - 1) (by omega)
  have e : 2 * (347998 + ny y) - 3 = 2 * (347997 + ny y) - 1 := by omega
  rw [e]
  refine ClaimD.use (from_jd_claim w (347997 + ny y) t (by omega) (by omega)) B F X N T hk hd hu ?_
  intro Y k d t u v a h' tk' D F' N' l
  obtain ⟨e1, e2, e3⟩ := date_last D (by omega) (by omega)
  subst e1; subst e2; subst e3
  exact ret t u v a h' tk' F' N' l
theorem ny_useP {w : World} {y : Int} {t : Tok} (h0 : 1 ≤ y) (h1 : y ≤ 11000000) {loose : List Str} {mean : ExcName → Option Value} {mg mb : Str → Option Value} {dp un : Nat} {gd : Option (List Code)} {cn : Str} {cs : Scope} {a : Addr} {ccd : Value} {cl : List (Str × Addr)} {outer : List Env} {A₀ : Around} {base h₀ : Heap} {L : Addr} {m : Str → Option Value} {news : List (Addr × Obj)} {s : Shared} {Q E : Value → Shared → Prop}
    (B : Below A₀ base outer h₀) (F : Fr h₀ L s.heap m) (X : (Mine.hd.heap_39 w.params).In h₀) (N : News h₀ L s.heap news) (T : Top Mine.hd.view_39 loose mean mg mb h₀) (hk : cs.kind = .function) (hd : dp + 5 < recursionLimit) (hu : un + 40 < cLine) (ret : (0 ≤ ny y ∧ ny y ≤ 366 * y) → (300 ≤ yd y ∧ yd y ≤ 400) → yd y = ny (y + 1) - ny y → yd (y - 1) = ny y - ny (y - 1) → (300 ≤ yd (y - 1) ∧ yd (y - 1) ≤ 400) → CbRet h₀ L m news s Q (fun t => .int (347998 + ny y) t)) :
      wpAny (model PySem.Challenge.rw_ak5002_02.row.prog w) (ktrTop dp un gd cn cs L a ccd cl outer) (call (.ref 138) [.int y t]) Q E s :=
  law_ny_claim w y t h0 h1 loose mean mg mb dp un gd cn cs a ccd cl outer A₀ base h₀ L m news s Q E B F X N T hk hd hu (ret (ny_law h0) (yd_bd (by omega) (by omega)) (yd_this y) (yd_prev y) (yd_bd (by omega) (by omega)))
end Mine

open PySem PySem.W PyProof.Rows PySem.Spec PySem.Calls
set_option maxRecDepth 100000
set_option Elab.async false
namespace Mine
section
variable {prog : Program} {w : World} {A : Around} {E : Value → Shared → Prop} {s : Shared} {t u : Tok} {Q : Value → Shared → Prop} {x : UInt64} {k n m : Int}
theorem ne_bool_same {b : Bool} (h : Q (.bool false) s) : wpAny (model prog w) A (compareOp .NotEq (.bool b) (.bool b)) Q E s := ne_bool (by rw [bne_self_eq_false]; exact h)
theorem ne_int_same (e : n = m) (h : Q (.bool false) s) : wpAny (model prog w) A (compareOp .NotEq (.int n t) (.int m u)) Q E s := by
  subst e
  exact PyProof.Rows.ne_int (by rw [bne_self_eq_false]; exact h)
theorem f_ne_fi_same (hx : x = Hf k) (hk : k.natAbs < 2 ^ 53) (e : k = 2 * n) (h : Q (.bool false) s) : wpAny (model prog w) A (compareOp .NotEq (.float x t) (.int n u)) Q E s := f_ne_fi hx hk (by rw [decide_eq_true e]; exact h)
theorem f_ne_ff_same {y : UInt64} {l : Int} (hx : x = Hf k) (hy : y = Hf l) (hk : k.natAbs < 2 ^ 53) (hl : l.natAbs < 2 ^ 53) (e : k = l) (h : Q (.bool false) s) : wpAny (model prog w) A (compareOp .NotEq (.float x t) (.float y u)) Q E s := f_ne_ff hx hy hk hl (by rw [decide_eq_true e]; exact h)
end
section
variable {M : Model} {A : Around} {E : Value → Shared → Prop} {s : Shared} {h₀ : Heap} {L a C : Addr} {cn : Str} {cs scope : Scope} {ccd : Value} {cl : List (Str × Addr)} {env : Env} {x : Str} {pos : Pos} {v : Value} {Q : Value → Shared → Prop} {news nw : List (Addr × Obj)} {c : Addr} {o : Obj}
theorem name_cell (N : News h₀ L s.heap news) (hc : cl.lookup x = some c) (hm : (c, o) ∈ nw) (hs : ∀ p ∈ nw, p ∈ news) (hd : o.data = .cell (some v)) (h : Q v s)
    (hk : cs.kind = .function := by rfl) (hx : (envX cn cs L a ccd cl).kindOf x = some .cell := by rfl) (hb : (x == ("__debug__" : Str)) = false := by decide) :
    wpAny M A (eval (.Name x pos) (envX cn cs L a ccd cl)) Q E s := nameX_C N hc (hs _ hm) hd h hk hx hb
theorem mem_up {X : Type} {p : X} {A B : List X} (hm : p ∈ A) (hs : ∀ q ∈ A, q ∈ B) : p ∈ B := hs p hm
theorem len_mons2 {prog : Program} {w : World} {A : Around} {E : Value → Shared → Prop} {l : Addr} {vs : List Value} {nn : Nat} {y : Int} (N : News h₀ L s.heap news) (hm : (l, listOf vs.toArray nn) ∈ nw) (hs : ∀ p ∈ nw, p ∈ news) (hp : PairsIn nw vs (mons y))
    (h : Q (.int (ym y) (s.toks + 1)) { s with toks := s.toks + 1 + 1 }) : wpAny (model prog w) A (call (.builtin "len") [.ref l]) Q E s := len_mons N (hs _ hm) hp h
theorem name_free (N : News h₀ L s.heap news) (hc : cl.lookup x = some c) (hm : (c, o) ∈ nw) (hs : ∀ p ∈ nw, p ∈ news) (hd : o.data = .cell (some v)) (h : Q v s)
    (hk : (compEnvC scope cl C env).scope.kind = .function) (hx : (compEnvC scope cl C env).kindOf x = some .cell) (hb : (x == ("__debug__" : Str)) = false := by decide) :
    wpAny M A (eval (.Name x pos) (compEnvC scope cl C env)) Q E s := lcf_cell N hc (hs _ hm) hd h hk hx hb
end
end Mine
open Mine
local macro_rules | `(tactic| walk_at "binaryOp Add float int") => `(tactic| (k_here; (with_reducible show wpAny _ _ (binaryOp _ (Value.float _ _) (Value.int _ _)) _ _ _); k_dflt (refine' f_add_fi ?hx ?hk ?hn ?hc ?_; (case hx => first | with_reducible rfl | exact lit_epoch | exact lit_half | exact lit_mul | exact lit_div | exact lit_3h); (case hk => omega); (case hn => omega); (case hc => omega)); (try dsimp only)))
local macro_rules | `(tactic| walk_at "binaryOp Add int float") => `(tactic| (k_here; (with_reducible show wpAny _ _ (binaryOp _ (Value.int _ _) (Value.float _ _)) _ _ _); k_dflt (refine' f_add_if ?hx ?hk ?hn ?hc ?_; (case hx => first | with_reducible rfl | exact lit_epoch | exact lit_half | exact lit_mul | exact lit_div | exact lit_3h); (case hk => omega); (case hn => omega); (case hc => omega)); (try dsimp only)))
local macro_rules | `(tactic| walk_at "binaryOp Sub int float") => `(tactic| (k_here; (with_reducible show wpAny _ _ (binaryOp _ (Value.int _ _) (Value.float _ _)) _ _ _); k_dflt (refine' f_sub_if ?hx ?hk ?hn ?hc ?_; (case hx => first | with_reducible rfl | exact lit_epoch | exact lit_half | exact lit_mul | exact lit_div | exact lit_3h); (case hk => omega); (case hn => omega); (case hc => omega)); (try dsimp only)))
local macro_rules | `(tactic| walk_at "inplaceOp Add float int") => `(tactic| (k_here; (with_reducible show wpAny _ _ (inplaceOp _ (Value.float _ _) (Value.int _ _)) _ _ _); k_dflt (refine' f_iadd_fi ?hx ?hk ?hn ?hc ?_; (case hx => first | with_reducible rfl | exact lit_epoch | exact lit_half | exact lit_mul | exact lit_div | exact lit_3h); (case hk => omega); (case hn => omega); (case hc => omega)); (try dsimp only)))
local macro_rules | `(tactic| walk_at "binaryOp Sub float float") => `(tactic| (k_here; (with_reducible show wpAny _ _ (binaryOp _ (Value.float _ _) (Value.float _ _)) _ _ _); k_dflt (refine' f_sub_ff ?hx ?hy ?hk ?hl ?hc ?_; (case hx => first | with_reducible rfl | exact lit_epoch | exact lit_half | exact lit_mul | exact lit_div | exact lit_3h); (case hy => first | with_reducible rfl | exact lit_epoch | exact lit_half | exact lit_mul | exact lit_div | exact lit_3h); (case hk => omega); (case hl => omega); (case hc => omega)); (try dsimp only)))
local macro_rules | `(tactic| walk_at "binaryOp Mult float float") => `(tactic| (k_here; (with_reducible show wpAny _ _ (binaryOp _ (Value.float _ _) (Value.float _ _)) _ _ _); k_dflt (refine' f_mul_ff ?hx ?hy ?h0 ?hk ?_; (case hx => first | with_reducible rfl | exact lit_epoch | exact lit_half | exact lit_mul | exact lit_div | exact lit_3h); (case hy => first | with_reducible rfl | exact lit_epoch | exact lit_half | exact lit_mul | exact lit_div | exact lit_3h); (case h0 => omega); (case hk => omega)); (try dsimp only)))
local macro_rules | `(tactic| walk_at "binaryOp Div int int") => `(tactic| (k_here; (with_reducible show wpAny _ _ (binaryOp _ (Value.int _ _) (Value.int 19 _)) _ _ _); k_dflt (refine' f_div_19 ?hn ?hq ?_; (case hn => omega); (case hq => omega)); intro z' fz'; (try dsimp only)))
local macro_rules | `(tactic| walk_at "binaryOp Div int int") => `(tactic| (k_here; (with_reducible show wpAny _ _ (binaryOp _ (Value.int _ _) (Value.int 25920 _)) _ _ _); k_dflt (refine' f_div_25920 ?hn ?hq ?_; (case hn => omega); (case hq => omega)); intro z' fz'; (try dsimp only)))
local macro_rules | `(tactic| walk_at "binaryOp Div float float") => `(tactic| (k_here; (with_reducible show wpAny _ _ (binaryOp _ (Value.float _ _) (Value.float _ _)) _ _ _); k_dflt (refine' f_div_ff ?hx ?hy ?h0 ?hk ?hq ?_; (case hx => first | with_reducible rfl | exact lit_epoch | exact lit_half | exact lit_mul | exact lit_div | exact lit_3h); (case hy => first | with_reducible rfl | exact lit_epoch | exact lit_half | exact lit_mul | exact lit_div | exact lit_3h); (case h0 => omega); (case hk => omega); (case hq => omega)); intro z' fz'; (try dsimp only)))
local macro_rules | `(tactic| walk_at "call builtin:math.floor") => `(tactic| (k_here; (with_reducible show wpAny _ _ (call _ [Value.float _ _]) _ _ _); k_dflt (refine' f_floor_h ?hA ?hx ?hk ?_; (case hA => rfl); (case hx => first | with_reducible rfl | exact lit_epoch | exact lit_half | exact lit_mul | exact lit_div | exact lit_3h); (case hk => omega)); (try dsimp only)))
local macro_rules | `(tactic| walk_at "call builtin:math.floor") => `(tactic| (k_here; (with_reducible show wpAny _ _ (call _ [Value.float _ _]) _ _ _); k_dflt (refine' f_floor_q ?hA ?hx ?_; (case hA => rfl); (case hx => assumption)); (try dsimp only)))
local macro_rules | `(tactic| walk_at "call type:int") => `(tactic| (k_here; (with_reducible show wpAny _ _ (call _ [Value.float _ _]) _ _ _); k_dflt (refine' f_int ?hA ?hx ?h0 ?hk ?_; (case hA => rfl); (case hx => first | with_reducible rfl | exact lit_epoch | exact lit_half | exact lit_mul | exact lit_div | exact lit_3h); (case h0 => omega); (case hk => omega)); (try dsimp only)))
local macro_rules | `(tactic| walk_at "binaryOp Mod float int") => `(tactic| (k_here; (with_reducible show wpAny _ _ (binaryOp _ (Value.float _ _) (Value.int _ _)) _ _ _); k_dflt (refine' f_mod_fi ?hx ?h0 ?hk ?h1 ?hn ?_; (case hx => with_reducible rfl); (case h0 => omega); (case hk => omega); (case h1 => decide); (case hn => decide)); (try dsimp only)))
local macro_rules | `(tactic| walk_at "compareOp Lt float float") => `(tactic| (k_here; (with_reducible show wpAny _ _ (compareOp _ (Value.float _ _) (Value.float _ _)) _ _ _); k_dflt (refine' f_lt_ff ?hx ?hy ?hk ?hl ?_; (case hx => first | with_reducible rfl | exact lit_epoch | exact lit_half | exact lit_mul | exact lit_div | exact lit_3h); (case hy => first | with_reducible rfl | exact lit_epoch | exact lit_half | exact lit_mul | exact lit_div | exact lit_3h); (case hk => omega); (case hl => omega)); (try dsimp only)))
local macro_rules | `(tactic| walk_at "compareOp Gt float float") => `(tactic| (k_here; (with_reducible show wpAny _ _ (compareOp _ (Value.float _ _) (Value.float _ _)) _ _ _); k_dflt (refine' f_gt_ff ?hx ?hy ?hk ?hl ?_; (case hx => first | with_reducible rfl | exact lit_epoch | exact lit_half | exact lit_mul | exact lit_div | exact lit_3h); (case hy => first | with_reducible rfl | exact lit_epoch | exact lit_half | exact lit_mul | exact lit_div | exact lit_3h); (case hk => omega); (case hl => omega)); (try dsimp only)))
local macro_rules | `(tactic| walk_at "compareOp GtE float float") => `(tactic| (k_here; (with_reducible show wpAny _ _ (compareOp _ (Value.float _ _) (Value.float _ _)) _ _ _); k_dflt (refine' f_ge_ff ?hx ?hy ?hk ?hl ?_; (case hx => first | with_reducible rfl | exact lit_epoch | exact lit_half | exact lit_mul | exact lit_div | exact lit_3h); (case hy => first | with_reducible rfl | exact lit_epoch | exact lit_half | exact lit_mul | exact lit_div | exact lit_3h); (case hk => omega); (case hl => omega)); (try dsimp only)))
local macro_rules | `(tactic| walk_at "compareOp NotEq float float") => `(tactic| (k_here; (with_reducible show wpAny _ _ (compareOp _ (Value.float _ _) (Value.float _ _)) _ _ _); k_dflt (refine' f_ne_ff ?hx ?hy ?hk ?hl ?_; (case hx => first | with_reducible rfl | exact lit_epoch | exact lit_half | exact lit_mul | exact lit_div | exact lit_3h); (case hy => first | with_reducible rfl | exact lit_epoch | exact lit_half | exact lit_mul | exact lit_div | exact lit_3h); (case hk => omega); (case hl => omega)); (try dsimp only)))
local macro_rules | `(tactic| walk_at "compareOp NotEq float int") => `(tactic| (k_here; (with_reducible show wpAny _ _ (compareOp _ (Value.float _ _) (Value.int _ _)) _ _ _); k_dflt (refine' f_ne_fi ?hx ?hk ?_; (case hx => first | with_reducible rfl | exact lit_epoch | exact lit_half | exact lit_mul | exact lit_div | exact lit_3h); (case hk => omega)); (try dsimp only)))
local macro_rules | `(tactic| walk_at "compareOp Eq float int") => `(tactic| (k_here; (with_reducible show wpAny _ _ (compareOp _ (Value.float _ _) (Value.int _ _)) _ _ _); k_dflt (refine' f_eq_fi ?hx ?hk ?_; (case hx => first | with_reducible rfl | exact lit_epoch | exact lit_half | exact lit_mul | exact lit_div | exact lit_3h); (case hk => omega)); (try dsimp only)))
local macro_rules | `(tactic| walk_at "call ref") => `(tactic| (k_here; (with_reducible show wpAny _ _ (call (Value.ref 49) [Value.int _ _]) _ _ _); k_dflt (refine' Claim.use (leap_claim _ _ _) ?k1 ?k2 ?k3 ?k4 ?k5 ?kK ?kd ?ku ?_; (case k1 => k_asm); (case k2 => k_asm); (case k3 => k_asm); (case k4 => k_asm); (case k5 => k_asm); (case kK => first | exact rfl | assumption); (case kd => ktr_room); (case ku => ktr_units)); (dsimp only [CbRet]); intro t9 h9 tk9 F9 N9; (try dsimp only); (try k_fold)))
local macro_rules | `(tactic| walk_at "call ref") => `(tactic| (k_here; (with_reducible show wpAny _ _ (call (Value.ref 56) [Value.int _ _]) _ _ _); k_dflt (refine' Claim.use (year_months_claim _ _ _) ?k1 ?k2 ?k3 ?k4 ?k5 ?kK ?kd ?ku ?_; (case k1 => k_asm); (case k2 => k_asm); (case k3 => k_asm); (case k4 => k_asm); (case k5 => k_asm); (case kK => first | exact rfl | assumption); (case kd => ktr_room); (case ku => ktr_units)); (dsimp only [CbRet]); intro t9 h9 tk9 F9 N9; (try dsimp only); (try k_fold)))
local macro_rules | `(tactic| walk_at "call ref") => `(tactic| (k_here; (with_reducible show wpAny _ _ (call (Value.ref 63) [Value.int _ _]) _ _ _); k_dflt (refine' Claim.use (delay_1_claim _ _ _ ?kp0 ?kp1) ?k1 ?k2 ?k3 ?k4 ?k5 ?kK ?kd ?ku ?_; (case k1 => k_asm); (case k2 => k_asm); (case k3 => k_asm); (case k4 => k_asm); (case k5 => k_asm); (case kK => first | exact rfl | assumption); (case kd => ktr_room); (case ku => ktr_units); (case kp0 => omega); (case kp1 => omega)); (dsimp only [CbRet]); intro t9 h9 tk9 F9 N9; (try dsimp only); (try k_fold)))
local macro_rules | `(tactic| walk_at "call ref") => `(tactic| (k_here; (with_reducible show wpAny _ _ (call (Value.ref 70) [Value.int _ _]) _ _ _); k_dflt (refine' Claim.use (delay_2_claim _ _ _ ?kp0 ?kp1) ?k1 ?k2 ?k3 ?k4 ?k5 ?kK ?kd ?ku ?_; (case k1 => k_asm); (case k2 => k_asm); (case k3 => k_asm); (case k4 => k_asm); (case k5 => k_asm); (case kK => first | exact rfl | assumption); (case kd => ktr_room); (case ku => ktr_units); (case kp0 => omega); (case kp1 => omega)); (dsimp only [CbRet]); intro t9 h9 tk9 F9 N9; (try dsimp only); (try k_fold)))
local macro_rules | `(tactic| walk_at "call ref") => `(tactic| (k_here; (with_reducible show wpAny _ _ (call (Value.ref 77) [Value.int _ _]) _ _ _); k_dflt (refine' Claim.use (year_days_claim _ _ _ ?kp0 ?kp1) ?k1 ?k2 ?k3 ?k4 ?k5 ?kK ?kd ?ku ?_; (case k1 => k_asm); (case k2 => k_asm); (case k3 => k_asm); (case k4 => k_asm); (case k5 => k_asm); (case kK => first | exact rfl | assumption); (case kd => ktr_room); (case ku => ktr_units); (case kp0 => omega); (case kp1 => omega)); (dsimp only [CbRet]); intro t9 h9 tk9 F9 N9; (try dsimp only); (try k_fold)))
local macro_rules | `(tactic| walk_at "call ref") => `(tactic| (k_here; (with_reducible show wpAny _ _ (call (Value.ref 84) [Value.int _ _, Value.int _ _]) _ _ _); k_dflt (refine' Claim.use (month_length_claim _ _ _ _ _ ?kp0 ?kp1 ?kp2 ?kp3) ?k1 ?k2 ?k3 ?k4 ?k5 ?kK ?kd ?ku ?_; (case k1 => k_asm); (case k2 => k_asm); (case k3 => k_asm); (case k4 => k_asm); (case k5 => k_asm); (case kK => first | exact rfl | assumption); (case kd => ktr_room); (case ku => ktr_units); (case kp0 => omega); (case kp1 => omega); (case kp2 => omega); (case kp3 => omega)); (dsimp only [CbRet]); intro t9 h9 tk9 F9 N9; (try dsimp only); (try k_fold)))
local macro_rules | `(tactic| walk_at "call ref") => `(tactic| (k_here; (with_reducible show wpAny _ _ (call (Value.ref 91) [Value.int _ _, Value.int _ _]) _ _ _); k_dflt (refine' Claim.use (month_days_claim _ _ _ _ _ ?kp0 ?kp1 ?kp2 ?kp3) ?k1 ?k2 ?k3 ?k4 ?k5 ?kK ?kd ?ku ?_; (case k1 => k_asm); (case k2 => k_asm); (case k3 => k_asm); (case k4 => k_asm); (case k5 => k_asm); (case kK => first | exact rfl | assumption); (case kd => ktr_room); (case ku => ktr_units); (case kp0 => omega); (case kp1 => omega); (case kp2 => omega); (case kp3 => omega)); (dsimp only [CbRet]); intro t9 h9 tk9 F9 N9; (try dsimp only); (try k_fold)))
local macro_rules | `(tactic| walk_at "call ref") => `(tactic| (k_here; (with_reducible show wpAny _ _ (call (Value.ref 98) [Value.int _ _, Value.int _ _, Value.int _ _]) _ _ _); k_dflt (refine' Claim.use (to_jd_claim _ _ _ _ _ _ _ ?kp0 ?kp1 ?kp2 ?kp3 ?kp4 ?kp5) ?k1 ?k2 ?k3 ?k4 ?k5 ?kK ?kd ?ku ?_; (case k1 => k_asm); (case k2 => k_asm); (case k3 => k_asm); (case k4 => k_asm); (case k5 => k_asm); (case kK => first | exact rfl | assumption); (case kd => ktr_room); (case ku => ktr_units); (case kp0 => omega); (case kp1 => omega); (case kp2 => omega); (case kp3 => omega); (case kp4 => omega); (case kp5 => omega)); (dsimp only [CbRet]); intro t9 h9 tk9 F9 N9; (try dsimp only); (try k_fold)))
local macro_rules | `(tactic| walk_at "call ref") => `(tactic| (k_here; (with_reducible show wpAny _ _ (call (Value.ref 98) [Value.int _ _, Value.int 7 _, Value.int _ _]) _ _ _); k_dflt (refine' Claim.use (to_jd7_claim _ _ _ _ _ _ ?kp0 ?kp1 ?kp2 ?kp3) ?k1 ?k2 ?k3 ?k4 ?k5 ?kK ?kd ?ku ?_; (case k1 => k_asm); (case k2 => k_asm); (case k3 => k_asm); (case k4 => k_asm); (case k5 => k_asm); (case kK => first | exact rfl | assumption); (case kd => ktr_room); (case ku => ktr_units); (case kp0 => omega); (case kp1 => omega); (case kp2 => omega); (case kp3 => omega)); (dsimp only [CbRet]); intro t9 h9 tk9 F9 N9; (try dsimp only); (try k_fold)))
local macro_rules | `(tactic| walk_at "call ref") => `(tactic| (k_here; (with_reducible show wpAny _ _ (call (Value.ref 119) [Value.int _ _]) _ _ _); k_dflt (refine' Claim.use (long_claim _ _ _) ?k1 ?k2 ?k3 ?k4 ?k5 ?kK ?kd ?ku ?_; (case k1 => k_asm); (case k2 => k_asm); (case k3 => k_asm); (case k4 => k_asm); (case k5 => k_asm); (case kK => first | exact rfl | assumption); (case kd => ktr_room); (case ku => ktr_units)); (dsimp only [CbRet]); intro t9 h9 tk9 F9 N9; (try dsimp only); (try k_fold)))
local macro_rules | `(tactic| walk_at "call ref") => `(tactic| (k_here; (with_reducible show wpAny _ _ (call (Value.ref 124) [Value.int _ _]) _ _ _); k_dflt (refine' ClaimQ.use (moon_claim _ _ _ ?kp0 ?kp1) ?k1 ?k2 ?k3 ?k4 ?k5 ?kK ?kd ?ku ?_; (case k1 => k_asm); (case k2 => k_asm); (case k3 => k_asm); (case k4 => k_asm); (case k5 => k_asm); (case kK => first | exact rfl | assumption); (case kd => ktr_room); (case ku => ktr_units); (case kp0 => omega); (case kp1 => omega)); (dsimp only [RetQ]); intro t9 u9 a9 h9 tk9 F9 N9; (try dsimp only); (try k_fold)))
local macro_rules | `(tactic| walk_at "call ref") => `(tactic| (k_here; (with_reducible show wpAny _ _ (call (Value.ref 131) [Value.int _ _, Value.int _ _, Value.int _ _]) _ _ _); k_dflt (refine' Claim.use (rule_claim2 _ _ _ _ _) ?k1 ?k2 ?k3 ?k4 ?k5 ?kK ?kd ?ku ?_; (case k1 => k_asm); (case k2 => k_asm); (case k3 => k_asm); (case k4 => k_asm); (case k5 => k_asm); (case kK => first | exact rfl | assumption); (case kd => ktr_room); (case ku => ktr_units)); (dsimp only [CbRet]); intro t9 h9 tk9 F9 N9; (try dsimp only); (try k_fold)))
local macro_rules | `(tactic| walk_at "call ref") => `(tactic| (k_here; (with_reducible show wpAny _ _ (call (Value.ref 138) [Value.int _ _]) _ _ _); k_dflt (refine' ny_useP ?kp0 ?kp1 ?k1 ?k2 ?k3 ?k4 ?k5 ?kK ?kd ?ku ?_; (case k1 => k_asm); (case k2 => k_asm); (case k3 => k_asm); (case k4 => k_asm); (case k5 => k_asm); (case kK => first | exact rfl | assumption); (case kd => ktr_room); (case ku => ktr_units); (case kp0 => omega); (case kp1 => omega)); intro nb9 yb9 ye9 yp9 yq9; (dsimp only [CbRet]); intro t9 h9 tk9 F9 N9; (try dsimp only); (try k_fold)))
local macro_rules | `(tactic| walk_at "call ref") => `(tactic| (k_here; (with_reducible show wpAny _ _ (call (Value.ref 105) [Value.float (Hf (_ - 1)) _]) _ _ _); k_dflt (refine' from_jd_first ?kp0 ?kp1 ?k1 ?k2 ?k3 ?k4 ?k5 ?kK ?kd ?ku ?_; (case k1 => k_asm); (case k2 => k_asm); (case k3 => k_asm); (case k4 => k_asm); (case k5 => k_asm); (case kK => first | exact rfl | assumption); (case kd => ktr_room); (case ku => ktr_units); (case kp0 => omega); (case kp1 => omega)); (dsimp only [RetT3]); intro t9 u9 v9 a9 h9 tk9 F9 N9 l1; (try k_lt l1); (try dsimp only); (try k_fold)))
local macro_rules | `(tactic| walk_at "call ref") => `(tactic| (k_here; (with_reducible show wpAny _ _ (call (Value.ref 105) [Value.float (Hf (_ - 3)) _]) _ _ _); k_dflt (refine' from_jd_last ?kp0 ?kp1 ?k1 ?k2 ?k3 ?k4 ?k5 ?kK ?kd ?ku ?_; (case k1 => k_asm); (case k2 => k_asm); (case k3 => k_asm); (case k4 => k_asm); (case k5 => k_asm); (case kK => first | exact rfl | assumption); (case kd => ktr_room); (case ku => ktr_units); (case kp0 => omega); (case kp1 => omega)); (dsimp only [RetT3]); intro t9 u9 v9 a9 h9 tk9 F9 N9 l1; (try k_lt l1); (try dsimp only); (try k_fold)))
local macro_rules | `(tactic| walk_at "exec For Name Call cons nil") => `(tactic| (k_here; (rename Fr _ _ _ _ => lF'); (with_unfolding_all refine' For_invVF lF' ?k1 ?k2 ?_; (case k1 => exact rfl); (case k2 => exact rfl); k_whole)))
local macro_rules | `(tactic| walk_at "call builtin:abs") => `(tactic| (k_here; (with_reducible show wpAny _ _ (call _ [Value.int _ _]) _ _ _); k_dflt (refine' abs_num ?hb ?_; (case hb => exact num_bd _ _)); intro z' u' tk' hz0' hz1'; (try dsimp only)))
local macro_rules | `(tactic| walk_at "binaryOp Mod int int") => `(tactic| (k_here; (with_reducible show wpAny _ _ (binaryOp _ (Value.int _ _) (Value.int 200 _)) _ _ _); k_dflt (refine' mod_len (by decide) ?_); intro z' hz0' hz1'; (try dsimp only)))
local macro_rules | `(tactic| walk_at "binaryOp Mod int int") => `(tactic| (k_here; (with_reducible show wpAny _ _ (binaryOp _ (Value.int _ _) (Value.int 2 _)) _ _ _); k_dflt (refine' mod_2 ?_); intro z' hz0' hz1' hW'; (try dsimp only)))
local macro_rules | `(tactic| walk_at "binaryOp Mod int int") => `(tactic| (k_here; (with_reducible show wpAny _ _ (binaryOp _ (Value.int _ _) (Value.int (Nat.cast (List.length _)) _)) _ _ _); k_dflt (refine' mod_len (len_pos2 (by with_reducible assumption) (by with_reducible assumption)) ?_); intro z' hz0' hz1'; (try dsimp only)))
local macro_rules | `(tactic| walk_at "eval IfExp") => `(tactic| (k_here; with_reducible refine ifExp_ii ?_))
local macro_rules | `(tactic| walk_at "pyIter ref") => `(tactic| (k_here; (with_reducible show wpAny _ _ (pyIter (Value.ref _)) (fun it s₂ => LoopAtV _ _ _ _ _ _ _ _ _ it s₂) _ _); k_dflt ((rename Fr _ _ _ _ => lF'); (rename News _ _ _ _ => lN'); (rename IsRange _ _ _ _ _ _ _ _ => rgX); (with_unfolding_all refine' rules_loop (by rfl) rgX ?hb ?hs ?p1 ?p2 ?p3 ?p4 ?p5 ?p6 ?p7 ?p8 ?p9 ?p10 lF' lN' ?q1 ?q2 (fun i' y' t' vs' nn' td' tp' U' h' tk' own' hy' hi' hnx' hp0' hp1' hv' hlen' hoff' howl' F' N' => ?_) (fun vs' nn' td' tp' D' P' U' h' tk' hB' hv' hlen' F' N' => ?_)); (case hb => omega); (case hs => exact small_one (by omega) (by omega) (by omega) (by omega)); (case p1 => rfl); (case p2 => k_mem); (case p3 => assumption); (case p4 => k_mem); (case p5 => rfl); (case p6 => k_mem); (case p7 => rfl); (case p8 => k_mem); (case p9 => rfl); (case p10 => k_mem); (case q1 => rfl); (case q2 => rfl); (all_goals (try clear lF' lN')); (all_goals (try k_fold)))))
local macro_rules | `(tactic| walk_at "call builtin:list.append") => `(tactic| (k_here; (with_reducible show wpAny _ _ (call (Value.builtin _) [Value.ref _, _]) _ _ _); k_dflt (refine' append_K ?k1 ?k2 ?k3 ?_ ?z; (case k1 => k_asm); (case k2 => k_asm); (case k3 => (refine' Upd.tail ?ua ?ub; (case ua => k_ne); (case ub => (refine Upd.head ?uc; (case uc => exact off3 (by k_ne) (by k_ne) (by k_ne) (by assumption)))))); (case z => (rw [List.size_toArray, PySem.sizeLine_eq]; omega)); k_whole); intro h' F' N'; (try k_sweep)))
local macro_rules | `(tactic| walk_at "InvEndG") => `(tactic| (k_dflt (refine' endR ?kF ?kN ?kR ?kl ?kv ?ki ?kz ?kd ?kD ?kp ?kP ?kr ?ko ?kk ?kw; (case kF => k_asm); (case kN => k_asm); (case kR => k_mem); (case kv => assumption); (case kl => k_mem); (case ki => rfl); (case kz => exact congrArg d2 (by omega)); (case kd => rfl); (case kp => rfl); (case kD => exact turn_D (by assumption)); (case kP => exact turn_P (by assumption)); (case kr => (intro z h1 h2 h3 h4; (try simp only [sDay, sParts, sMore, sYear] at h1 h2 h3 h4); (simp [FRY, sDay, sParts, sMore, sYear, h1, h2, h3, h4]))); (case ko => assumption); (case kk => exact mem3 (by k_mem) (by k_mem) (by k_mem)); (case kw => with_reducible first | exact fun _ h => h | exact fun _ h => (List.mem_cons_of_mem _ h) | exact fun _ h => (List.mem_cons_of_mem _ (List.mem_cons_of_mem _ h)) | exact fun _ h => (List.mem_cons_of_mem _ (List.mem_cons_of_mem _ (List.mem_cons_of_mem _ h))) | exact fun _ h => (List.mem_cons_of_mem _ (List.mem_cons_of_mem _ (List.mem_cons_of_mem _ (List.mem_cons_of_mem _ h)))) | exact fun _ h => (List.mem_cons_of_mem _ (List.mem_cons_of_mem _ (List.mem_cons_of_mem _ (List.mem_cons_of_mem _ (List.mem_cons_of_mem _ h))))) | exact fun _ h => (List.mem_cons_of_mem _ (List.mem_cons_of_mem _ (List.mem_cons_of_mem _ (List.mem_cons_of_mem _ (List.mem_cons_of_mem _ (List.mem_cons_of_mem _ h)))))) | exact fun _ h => (List.mem_cons_of_mem _ (List.mem_cons_of_mem _ (List.mem_cons_of_mem _ (List.mem_cons_of_mem _ (List.mem_cons_of_mem _ (List.mem_cons_of_mem _ (List.mem_cons_of_mem _ h))))))) | exact fun _ h => (List.mem_cons_of_mem _ (List.mem_cons_of_mem _ (List.mem_cons_of_mem _ (List.mem_cons_of_mem _ (List.mem_cons_of_mem _ (List.mem_cons_of_mem _ (List.mem_cons_of_mem _ (List.mem_cons_of_mem _ h)))))))) | exact fun _ h => (List.mem_cons_of_mem _ (List.mem_cons_of_mem _ (List.mem_cons_of_mem _ (List.mem_cons_of_mem _ (List.mem_cons_of_mem _ (List.mem_cons_of_mem _ (List.mem_cons_of_mem _ (List.mem_cons_of_mem _ (List.mem_cons_of_mem _ h))))))))) | exact fun _ h => (List.mem_cons_of_mem _ (List.mem_cons_of_mem _ (List.mem_cons_of_mem _ (List.mem_cons_of_mem _ (List.mem_cons_of_mem _ (List.mem_cons_of_mem _ (List.mem_cons_of_mem _ (List.mem_cons_of_mem _ (List.mem_cons_of_mem _ (List.mem_cons_of_mem _ h))))))))))))))
local macro_rules | `(tactic| walk_at "CompSrcT") => `(tactic| (k_here; (with_reducible show LCt.CompSrcT _ _ _ _ _ _ _ (Expr.Compare _ _ [Expr.Name _ _] _) _ _ _ _ _ _ _); k_dflt (refine LCt.CompSrcT.range (n := 200) (by rfl) (by k_asm) (by k_asm) (by assumption) (by decide) (by rfl) (by (rw [PySem.sizeLine_eq]; omega)) ?_; intro g'; (refine' kci_want (by assumption) (by assumption) (fun k' t' I' oI' C' oC' D' m' ys' l' h' tk' E' hk0' hk1' hI' hC' hx' F' N' off' ne' => ?_) (fun ys' hr' hl' => ?_)))))
local macro_rules | `(tactic| walk_at "CompSrcT") => `(tactic| (k_here; (with_reducible show LCt.CompSrcT _ _ _ _ _ _ _ (Expr.Compare _ _ [Expr.Constant _ _ _] _) _ _ _ _ _ _ _); k_dflt (refine LCt.CompSrcT.range (n := 200) (by rfl) (by k_asm) (by k_asm) (by assumption) (by decide) (by rfl) (by (rw [PySem.sizeLine_eq]; omega)) ?_; intro g'; (refine' kci_rules (z := 0) (by assumption) (fun k' t' I' oI' C' oC' D' m' ys' l' h' tk' E' hk0' hk1' hI' hC' hx' F' N' off' ne' => ?_) (fun ys' hr' hl' => ?_)))))
local macro_rules | `(tactic| walk_at "CompEnd") => `(tactic| (refine LCg.CompEnd.intro (by k_asm) (by k_asm) _ (fun _ hp => hp) (by with_reducible assumption) True.intro ?_))
local macro_rules | `(tactic| walk_at "KCiEl") => `(tactic| (refine kci_el (if_pos ?kce) (by with_unfolding_all rfl) (by with_unfolding_all rfl); (case kce => first | assumption | omega)))
local macro_rules | `(tactic| walk_at "KCiNo") => `(tactic| (refine kci_no (if_neg ?kce) (by with_unfolding_all rfl); (case kce => first | assumption | omega)))
local macro_rules | `(tactic| walk_at "subscriptTail") => `(tactic| (k_here; (with_reducible show wpAny _ _ (subscriptTail _ _ (Value.ref _) (Value.int _ _)) _ _ _); k_dflt (with_unfolding_all refine' item_rare ?k1 ?k2 ?k3 ?k4 ?k5 ?k6 ?_ ?k7; (case k3 => with_reducible assumption); (case k1 => k_asm); (case k2 => k_mem); (case k4 => assumption); (case k5 => assumption); (case k6 => assumption); (case k7 => with_unfolding_all rfl)); intro x' t' hx0' hx1' hx2'; (try dsimp only)))
local macro_rules | `(tactic| walk_at "subscriptTail Name BinOp ref int") => `(tactic| (k_here; (with_reducible show wpAny _ _ (subscriptTail _ _ (Value.ref _) (Value.int _ _)) _ _ _); k_dflt (with_unfolding_all refine' item_rare ?k1 ?k2 ?k3 ?k4 ?k5 ?k6 ?_ ?k7; (case k3 => with_reducible assumption); (case k1 => k_asm); (case k2 => k_mem); (case k4 => assumption); (case k5 => assumption); (case k6 => assumption); (case k7 => with_unfolding_all rfl)); intro x' t' hx0' hx1' hx2'; (try dsimp only)))
local macro_rules | `(tactic| walk_at "subscriptTail") => `(tactic| (k_here; (with_reducible show wpAny _ _ (subscriptTail _ _ (Value.ref _) (Value.int (-1) _)) _ _ _); k_dflt (with_unfolding_all refine' item_plain ?k1 ?k2 ?k3 ?k4 ?_ ?k7; (case k3 => with_reducible assumption); (case k1 => k_asm); (case k2 => k_mem); (case k4 => assumption); (case k7 => with_unfolding_all rfl)); intro x' t' hx0' hx1' hx2'; (try dsimp only)))
local macro_rules | `(tactic| walk_at "subscriptTail") => `(tactic| (k_here; (with_reducible show wpAny _ _ (subscriptTail _ _ (Value.ref _) (Value.int _ _)) _ _ _); k_dflt (with_unfolding_all refine' item_rules ?k1 ?k2 ?k3 ?k4 ?k5 ?_ ?k7; (case k3 => with_reducible assumption); (case k1 => k_asm); (case k2 => k_mem); (case k4 => assumption); (case k5 => assumption); (case k7 => with_unfolding_all rfl)); intro t'; (try dsimp only)))
local macro_rules | `(tactic| walk_at "subscriptTail") => `(tactic| (k_here; (with_reducible show wpAny _ _ (subscriptTail _ _ (Value.ref _) (Value.int (_ - _) _)) _ _ _); k_dflt (with_unfolding_all refine' item_year ?k1 ?k2 ?k3 ?k4 ?k5 ?_ ?k7; (case k3 => with_reducible assumption); (case k1 => k_asm); (case k2 => k_mem); (case k4 => omega); (case k5 => omega); (case k7 => with_unfolding_all rfl)); intro t'; (try dsimp only)))
local macro_rules | `(tactic| walk_at "call builtin:len") => `(tactic| (k_here; (with_reducible show wpAny _ _ (call (Value.builtin "len") [Value.ref _]) _ _ _); k_dflt (refine' len_rare ?N ?m ?p ?l ?_; (case p => with_reducible assumption); (case N => k_asm); (case m => k_mem); (case l => assumption)); (try dsimp only)))
local macro_rules | `(tactic| walk_at "compareOp NotEq float float") => `(tactic| (k_here; (with_reducible show wpAny _ _ (compareOp _ (Value.float _ _) (Value.float _ _)) _ _ _); k_dflt (refine' f_ne_ff_same ?hx ?hy ?hk ?hl ?he ?_; (case hx => first | with_reducible rfl | exact lit_epoch | exact lit_half | exact lit_mul | exact lit_div | exact lit_3h); (case hy => first | with_reducible rfl | exact lit_epoch | exact lit_half | exact lit_mul | exact lit_div | exact lit_3h); (case hk => omega); (case hl => omega); (case he => omega)); (try dsimp only)))
local macro_rules | `(tactic| walk_at "compareOp NotEq float int") => `(tactic| (k_here; (with_reducible show wpAny _ _ (compareOp _ (Value.float _ _) (Value.int _ _)) _ _ _); k_dflt (refine' f_ne_fi_same ?hx ?hk ?he ?_; (case hx => first | with_reducible rfl | exact lit_epoch | exact lit_half | exact lit_mul | exact lit_div | exact lit_3h); (case hk => omega); (case he => omega)); (try dsimp only)))
local macro_rules | `(tactic| walk_at "compareOp NotEq int int") => `(tactic| (k_here; (with_reducible show wpAny _ _ (compareOp _ (Value.int _ _) (Value.int _ _)) _ _ _); k_dflt (refine' ne_int_same ?he ?_; (case he => first | rfl | omega)); (try dsimp only)))
local macro_rules | `(tactic| walk_at "compareOp Eq int int") => `(tactic| (k_here; (with_reducible show wpAny _ _ (compareOp _ (Value.int (d2 _) _) (Value.int 0 _)) _ _ _); k_dflt (refine' eq_int_same ?he ?_; (case he => assumption)); (try dsimp only)))
set_option maxHeartbeats 4000000 in
theorem PySem.Challenge.cw_ak5002_02_holds : PySem.Challenge.rw_ak5002_02.Holds :=
  Mine.hd (by
    w_on
    k_go0
    all_goals try k_fold
    k_steps
    all_goals (try k_data))

