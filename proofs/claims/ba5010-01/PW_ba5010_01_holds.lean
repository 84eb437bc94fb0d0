import PyProof.Rows.All
import Wide.All
import OpenK.AllK
import Wide.FinOn
import PySem.Challenge.RW_ba5010_01
set_option Elab.async false
set_option maxRecDepth 100000
set_option maxHeartbeats 8000000
namespace Mine

section
open PySem PySem.W PySem.Float64
/-! halves: the float that is z / 2 -/
def hf (z : Int) : UInt64 := Float64.ofFrac (decide (z < 0)) z.natAbs 2

theorem p74 : (2 : Nat) ^ 1074 = 2 ^ 1073 * 2 := by rw [← Nat.pow_succ]

theorem exists_V (n c : Nat) (hn : n < 2 ^ 53) (hc : 52 ≤ c) (hc2 : c ≤ 1100) : ∃ t, t < infMag ∧ V t = n * 2 ^ c := by
  have hi : infMag = 2047 * 2 ^ 52 := rfl
  by_cases h0 : n = 0
  · subst h0
    exact ⟨0, by omega, by rw [V_zero, Nat.zero_mul]⟩
  · have hl := Nat.log2_lt (n := n) (k := 53) h0 |>.mpr hn
    have h1 : 2 ^ n.log2 ≤ n := Nat.log2_self_le h0
    have h2 : n < 2 ^ (n.log2 + 1) := Nat.lt_log2_self
    generalize n.log2 = l at *
    have e1 : 2 ^ l * 2 ^ (52 - l) = 2 ^ 52 := by rw [← Nat.pow_add]; congr 1; omega
    have e2 : 2 ^ (l + 1) * 2 ^ (52 - l) = 2 ^ 53 := by rw [← Nat.pow_add]; congr 1; omega
    have hq1 : 2 ^ 52 ≤ n * 2 ^ (52 - l) := by rw [← e1]; exact Nat.mul_le_mul_right _ h1
    have hq2 : n * 2 ^ (52 - l) < 2 ^ 53 := by rw [← e2]; exact Nat.mul_lt_mul_of_pos_right h2 (Nat.two_pow_pos _)
    refine ⟨(c - (52 - l)) * 2 ^ 52 + n * 2 ^ (52 - l), ?_, ?_⟩
    · have : c - (52 - l) ≤ 1100 := by omega
      omega
    · rw [V_at (by omega) (.inl hq1), Nat.mul_assoc, ← Nat.pow_add]
      congr 2; omega

theorem V_inj {a b : Nat} (h : V a = V b) : a = b := by
  rcases Nat.lt_trichotomy a b with h1 | h1 | h1
  · have := V_lt h1; omega
  · exact h1
  · have := V_lt h1; omega

theorem V_infMag : V infMag = 2 ^ 53 * 2 ^ 2045 := by
  have e : infMag = 2045 * 2 ^ 52 + 2 ^ 53 := by unfold infMag; omega
  rw [e]
  exact V_at (k := 2045) (q := 2 ^ 53) (by omega) (.inl (by omega))

/-- what is reached exactly is given exactly -/
theorem right_eq {r : UInt64} {neg : Bool} {W D t' : Nat} (h : Right r neg W D) (hD : 0 < D) (ht : t' < infMag) (hW : D * V t' = W) : r = pack neg t' := by
  obtain ⟨t, hr, hle, hinf, hnear⟩ := h
  have hlt : t < infMag := by
    refine Nat.lt_of_le_of_ne hle fun e => ?_
    have h1 := hinf.mp e
    have h2 : V t' ≤ V (infMag - 1) := V_mono (by omega)
    have hA : V (infMag - 1) = (2 ^ 53 - 1) * 2 ^ 2045 := by
      have e : infMag - 1 = 2045 * 2 ^ 52 + (2 ^ 53 - 1) := by unfold infMag; omega
      rw [e]
      exact V_at (k := 2045) (q := 2 ^ 53 - 1) (by omega) (.inl (by omega))
    rw [hA] at h2
    rw [← hW, show 2 * (D * V t') = D * (2 * V t') by ac_rfl] at h1
    have h3 := Nat.le_of_mul_le_mul_left h1 hD
    have hp : 0 < (2 : Nat) ^ 2045 := Nat.two_pow_pos _
    generalize (2 : Nat) ^ 2045 = K at *
    omega
  have h1 := (hnear hlt t').1
  rw [hW] at h1
  have h2 : dist W W = 0 := by unfold dist; omega
  rw [h2] at h1
  have h3 : D * V t = W := by unfold dist at h1; omega
  have h4 : V t = V t' := Nat.eq_of_mul_eq_mul_left hD (h3.trans hW.symm)
  rw [hr, V_inj h4]

theorem hf_right (z : Int) : Right (hf z) (decide (z < 0)) (z.natAbs * 2 ^ 1073) 1 := by
  unfold hf
  refine ofFrac_right (by decide) ?_ (by decide)
  have : (2 : Nat) ^ 1074 = 2 ^ 1073 * 2 := p74
  rw [this]
  generalize (2 : Nat) ^ 1073 = K
  rw [Nat.mul_one, Nat.mul_assoc]

theorem hf_pack {z : Int} (h : z.natAbs < 2 ^ 53) : ∃ t, t < infMag ∧ V t = z.natAbs * 2 ^ 1073 ∧ hf z = pack (decide (z < 0)) t := by
  obtain ⟨t, h1, h2⟩ := exists_V z.natAbs 1073 h (by decide) (by decide)
  exact ⟨t, h1, h2, right_eq (hf_right z) (by decide) h1 (by rw [h2, Nat.one_mul])⟩

theorem hf_of {r : UInt64} {z : Int} {W D : Nat} (h : Right r (decide (z < 0)) W D) (hD : 0 < D) (hz : z.natAbs < 2 ^ 53) (hW : W = D * (z.natAbs * 2 ^ 1073)) : r = hf z := by
  obtain ⟨t, h1, h2, h3⟩ := hf_pack hz
  rw [h3]
  exact right_eq h hD h1 (by rw [h2, hW])

theorem sgn_abs (z : Int) (k : Nat) : sgn (decide (z < 0)) (z.natAbs * k) = z * (k : Int) := by
  rw [sgn_mul]
  congr 1
  unfold sgn
  by_cases h : z < 0
  · simp [h]; omega
  · simp [h]; omega

theorem hf_dec {z : Int} (h : z.natAbs < 2 ^ 53) : ∃ m e, decode (hf z) = .fin (decide (z < 0)) m e ∧ val (hf z) = z * ((2 ^ 1073 : Nat) : Int) := by
  obtain ⟨t, h1, h2, h3⟩ := hf_pack h
  obtain ⟨m, e, hd, _⟩ := decode_pack (decide (z < 0)) h1
  refine ⟨m, e, by rw [h3]; exact hd, ?_⟩
  rw [h3, val_pack _ h1, h2, sgn_abs]

theorem zero_hf : zero false = hf 0 := by unfold zero hf Float64.ofFrac; rfl

theorem ofInt_hf {n : Int} (h : n.natAbs < 2 ^ 52) : Float64.ofInt n = hf (2 * n) := by
  have hr := ofInt_right n
  have e : decide (n < 0) = decide (2 * n < 0) := by apply decide_eq_decide.mpr; omega
  rw [e] at hr
  refine hf_of hr (by decide) (by omega) ?_
  have e2 : (2 * n).natAbs = n.natAbs * 2 := by omega
  have e3 : (2 : Nat) ^ 1074 = 2 ^ 1073 * 2 := p74
  rw [e2, e3]
  generalize (2 : Nat) ^ 1073 = K
  rw [Nat.one_mul, Nat.mul_assoc, Nat.mul_comm 2 K]

theorem abs_mul_cast (z : Int) (K : Nat) : (z * (K : Int)).natAbs = z.natAbs * K := by rw [Int.natAbs_mul, Int.natAbs_natCast]
theorem neg_mul_iff (z : Int) {K : Nat} (hK : 0 < K) : decide (z * (K : Int) < 0) = decide (z < 0) := by
  apply decide_eq_decide.mpr
  have hK' : (0 : Int) < K := Int.ofNat_lt.mpr hK
  constructor
  · intro h
    by_cases h2 : z < 0
    · exact h2
    · have := Int.mul_nonneg (show 0 ≤ z by omega) (Int.le_of_lt hK')
      omega
  · intro h
    exact Int.mul_neg_of_neg_of_pos h hK'

theorem add_hf {a b : Int} (ha : a.natAbs < 2 ^ 53) (hb : b.natAbs < 2 ^ 53) (hab : (a + b).natAbs < 2 ^ 53) : Float64.add (hf a) (hf b) = hf (a + b) := by
  obtain ⟨m, e, hd, hv⟩ := hf_dec ha
  obtain ⟨k, f, hd', hv'⟩ := hf_dec hb
  have h := add_right hd hd'
  have hK : 0 < (2 : Nat) ^ 1073 := Nat.two_pow_pos _
  rw [hv, hv', ← Int.add_mul] at h
  generalize hKK : (2 : Nat) ^ 1073 = K at *
  have hK' : (0 : Int) < K := Int.ofNat_lt.mpr hK
  by_cases h0 : a + b = 0
  · have h1 := h.1 (by rw [h0, Int.zero_mul])
    rw [h1, h0, ← zero_hf]
    have : (decide (a < 0) && decide (b < 0)) = false := by
      rw [Bool.and_eq_false_iff, decide_eq_false_iff_not, decide_eq_false_iff_not]
      omega
    rw [this]
  · have h1 := h.2 (fun e => by rcases Int.mul_eq_zero.mp e with q | q <;> omega)
    rw [neg_mul_iff _ hK, abs_mul_cast] at h1
    exact hf_of h1 (by decide) hab (by rw [hKK, Nat.one_mul])

theorem sub_hf {a b : Int} (ha : a.natAbs < 2 ^ 53) (hb : b.natAbs < 2 ^ 53) (hab : (a - b).natAbs < 2 ^ 53) : Float64.sub (hf a) (hf b) = hf (a - b) := by
  obtain ⟨m, e, hd, hv⟩ := hf_dec ha
  obtain ⟨k, f, hd', hv'⟩ := hf_dec hb
  have h := sub_right hd hd'
  have hK : 0 < (2 : Nat) ^ 1073 := Nat.two_pow_pos _
  rw [hv, hv', ← Int.sub_mul] at h
  generalize hKK : (2 : Nat) ^ 1073 = K at *
  have hK' : (0 : Int) < K := Int.ofNat_lt.mpr hK
  by_cases h0 : a - b = 0
  · have h1 := h.1 (by rw [h0, Int.zero_mul])
    rw [h1, h0, ← zero_hf]
    have : (decide (a < 0) && !decide (b < 0)) = false := by
      have hab : a = b := by omega
      subst hab
      cases decide (a < 0) <;> rfl
    rw [this]
  · have h1 := h.2 (fun e => by rcases Int.mul_eq_zero.mp e with q | q <;> omega)
    rw [neg_mul_iff _ hK, abs_mul_cast] at h1
    exact hf_of h1 (by decide) hab (by rw [hKK, Nat.one_mul])

/-- a positive whole number times a half -/
theorem mul_hf {a n : Int} (ha : a.natAbs < 2 ^ 53) (hn : 0 < n) (hn2 : n < 2 ^ 52) (hab : (a * n).natAbs < 2 ^ 53) : Float64.mul (hf a) (hf (2 * n)) = hf (a * n) := by
  obtain ⟨m, e, hd, hv⟩ := hf_dec ha
  obtain ⟨k, f, hd', hv'⟩ := hf_dec (z := 2 * n) (by omega)
  have h := mul_right hd hd'
  have hs : (decide (a < 0) != decide (2 * n < 0)) = decide (a * n < 0) := by
    have e1 : decide (2 * n < 0) = false := by rw [decide_eq_false_iff_not]; omega
    have e2 : decide (a * n < 0) = decide (a < 0) := by
      have := neg_mul_iff a (K := n.toNat) (by omega)
      rw [show ((n.toNat : Nat) : Int) = n by omega] at this
      exact this
    rw [e1, e2]
    cases decide (a < 0) <;> rfl
  rw [hs, hv, hv', abs_mul_cast, abs_mul_cast] at h
  refine hf_of h (Nat.two_pow_pos _) hab ?_
  have e1 : (2 : Nat) ^ 1074 = 2 ^ 1073 * 2 := p74
  have e2 : (2 * n).natAbs = 2 * n.natAbs := by omega
  rw [e1, e2, Int.natAbs_mul]
  generalize (2 : Nat) ^ 1073 = K
  ac_rfl
theorem mul_comm_f (x y : UInt64) : Float64.mul x y = Float64.mul y x := by
  unfold Float64.mul
  cases decode x with
  | nan => cases decode y <;> rfl
  | inf a => cases decode y with
    | nan => rfl
    | inf b => cases a <;> cases b <;> rfl
    | fin b k f => cases a <;> cases b <;> rfl
  | fin a m e => cases decode y with
    | nan => rfl
    | inf b => cases a <;> cases b <;> rfl
    | fin b k f =>
      show ofBin _ _ _ = ofBin _ _ _
      rw [Nat.mul_comm, Int.add_comm]
      cases a <;> cases b <;> rfl

theorem cmp_hf {a b : Int} (ha : a.natAbs < 2 ^ 53) (hb : b.natAbs < 2 ^ 53) : Float64.cmp (hf a) (hf b) = some (compare a b) := by
  obtain ⟨m, e, hd, hv⟩ := hf_dec ha
  obtain ⟨k, f, hd', hv'⟩ := hf_dec hb
  rw [cmp_right hd hd', hv, hv']
  have hK : 0 < (2 : Nat) ^ 1073 := Nat.two_pow_pos _
  generalize (2 : Nat) ^ 1073 = K at *
  have hK' : (0 : Int) < K := Int.ofNat_lt.mpr hK
  congr 1
  rcases Int.lt_trichotomy a b with h | h | h
  · rw [Int.compare_eq_lt.mpr h, Int.compare_eq_lt.mpr (Int.mul_lt_mul_of_pos_right h hK')]
  · subst h; simp
  · rw [Int.compare_eq_gt.mpr h, Int.compare_eq_gt.mpr (Int.mul_lt_mul_of_pos_right h hK')]
theorem cmpInt_hf {a n : Int} (ha : a.natAbs < 2 ^ 53) : Float64.cmpInt (hf a) n = some (compare a (2 * n)) := by
  obtain ⟨m, e, hd, hv⟩ := hf_dec ha
  rw [cmpInt_right hd, hv]
  have hK : 0 < (2 : Nat) ^ 1073 := Nat.two_pow_pos _
  have e1 : (2 : Int) ^ 1074 = 2 * ((2 ^ 1073 : Nat) : Int) := by
    rw [show (1074 : Nat) = 1073 + 1 from rfl, Int.pow_succ]
    simp [Int.mul_comm]
  rw [e1]
  generalize (2 : Nat) ^ 1073 = K at *
  have hK' : (0 : Int) < K := Int.ofNat_lt.mpr hK
  rw [show n * (2 * (K : Int)) = 2 * n * K by ac_rfl]
  congr 1
  rcases Int.lt_trichotomy a (2 * n) with h | h | h
  · rw [Int.compare_eq_lt.mpr h, Int.compare_eq_lt.mpr (Int.mul_lt_mul_of_pos_right h hK')]
  · rw [h]; simp
  · rw [Int.compare_eq_gt.mpr h, Int.compare_eq_gt.mpr (Int.mul_lt_mul_of_pos_right h hK')]
end

section
open PySem PySem.W PySem.Float64
/-! what lies nearest cannot jump over what can be written -/
theorem near_ge {W D t v : Nat} (hD0 : 0 < D) (h : ∀ t', dist W (D * V t) ≤ dist W (D * V t')) (t' : Nat) (hv : V t' = v) (hle : D * v ≤ W) : v ≤ V t := by
  rcases Nat.lt_or_ge (V t) v with hlt | hge
  · exfalso
    have h1 := h t'
    rw [hv] at h1
    have h2 : D * V t < D * v := Nat.mul_lt_mul_of_pos_left hlt hD0
    unfold dist at h1
    omega
  · exact hge
theorem near_le {W D t v : Nat} (hD0 : 0 < D) (h : ∀ t', dist W (D * V t) ≤ dist W (D * V t')) (t' : Nat) (hv : V t' = v) (hle : W ≤ D * v) : V t ≤ v := by
  rcases Nat.lt_or_ge v (V t) with hlt | hge
  · exfalso
    have h1 := h t'
    rw [hv] at h1
    have h2 : D * v < D * V t := Nat.mul_lt_mul_of_pos_left hlt hD0
    unfold dist at h1
    omega
  · exact hge

/-- N / d, rounded to the nearest float: its whole part is that of N / d -/
theorem quot_bounds {W D t N d : Nat} (hD : 0 < D) (h : ∀ t', dist W (D * V t) ≤ dist W (D * V t')) (hd : 0 < d) (hd2 : d < 2 ^ 20) (hN : N < 2 ^ 32) (hW : W * d = N * 2 ^ 1074 * D) :
    (N / d) * 2 ^ 1074 ≤ V t ∧ V t < (N / d + 1) * 2 ^ 1074 ∧ (N % d = 0 → V t = (N / d) * 2 ^ 1074) ∧ (N % d ≠ 0 → (N / d) * 2 ^ 1074 < V t) := by
  have hq : N / d ≤ N := Nat.div_le_self N d
  have hdm := Nat.div_add_mod N d
  have hr := Nat.mod_lt N hd
  obtain ⟨t1, -, hv1⟩ := exists_V (N / d) 1074 (by omega) (by decide) (by decide)
  obtain ⟨t2, -, hv2⟩ := exists_V ((N / d + 1) * 2 ^ 20 - 1) 1054 (by omega) (by decide) (by decide)
  obtain ⟨t3, -, hv3⟩ := exists_V ((N / d) * 2 ^ 20 + 1) 1054 (by omega) (by decide) (by decide)
  have e : (2 : Nat) ^ 1074 = 2 ^ 20 * 2 ^ 1054 := by rw [← Nat.pow_add]
  have hK : 0 < (2 : Nat) ^ 1054 := Nat.two_pow_pos _
  rw [e] at hv1 hW ⊢
  generalize (2 : Nat) ^ 1054 = K at *
  generalize hqq : N / d = q at *
  generalize hrr : N % d = r at *
  -- to compare D * v with W, compare v * d with N * 2^20 * K
  have up : ∀ v, v * d ≤ N * (2 ^ 20 * K) → D * v ≤ W := fun v hv => by
    refine Nat.le_of_mul_le_mul_right (c := d) ?_ hd
    rw [hW, show D * v * d = v * d * D by ac_rfl]
    exact Nat.mul_le_mul_right _ hv
  have dn : ∀ v, N * (2 ^ 20 * K) ≤ v * d → W ≤ D * v := fun v hv => by
    refine Nat.le_of_mul_le_mul_right (c := d) ?_ hd
    rw [hW, show D * v * d = v * d * D by ac_rfl]
    exact Nat.mul_le_mul_right _ hv
  have b1 : q * (2 ^ 20 * K) ≤ V t := near_ge hD h t1 hv1 (up _ (by
    rw [show q * (2 ^ 20 * K) * d = d * q * (2 ^ 20 * K) by ac_rfl]
    exact Nat.mul_le_mul_right _ (by omega)))
  refine ⟨b1, ?_, ?_, ?_⟩
  · have h1 : V t ≤ ((q + 1) * 2 ^ 20 - 1) * K := near_le hD h t2 hv2 (dn _ (by
      rw [← Nat.mul_assoc, show ((q + 1) * 2 ^ 20 - 1) * K * d = ((q + 1) * 2 ^ 20 - 1) * d * K by ac_rfl]
      refine Nat.mul_le_mul_right _ ?_
      have e1 : ((q + 1) * 2 ^ 20 - 1) * d = (q + 1) * 2 ^ 20 * d - d := by rw [Nat.sub_mul, Nat.one_mul]
      have e2 : (q + 1) * 2 ^ 20 * d = (d * q + d) * 2 ^ 20 := by rw [← Nat.mul_succ]; ac_rfl
      have e3 : (d * q + d) * 2 ^ 20 = (d * q) * 2 ^ 20 + d * 2 ^ 20 := Nat.add_mul _ _ _
      rw [e1, e2, e3, ← hdm, Nat.add_mul]
      generalize d * q = z
      have : r + 1 ≤ d := hr
      omega))
    refine Nat.lt_of_le_of_lt h1 ?_
    rw [← Nat.mul_assoc]
    exact Nat.mul_lt_mul_of_pos_right (by omega) hK
  · intro h0
    refine Nat.le_antisymm (near_le hD h t1 hv1 (dn _ ?_)) b1
    rw [show q * (2 ^ 20 * K) * d = d * q * (2 ^ 20 * K) by ac_rfl]
    exact Nat.mul_le_mul_right _ (by omega)
  · intro h0
    have h1 : (q * 2 ^ 20 + 1) * K ≤ V t := near_ge hD h t3 hv3 (up _ (by
      rw [← Nat.mul_assoc, show (q * 2 ^ 20 + 1) * K * d = (q * 2 ^ 20 + 1) * d * K by ac_rfl]
      refine Nat.mul_le_mul_right _ ?_
      rw [Nat.add_mul, Nat.one_mul, show q * 2 ^ 20 * d = d * q * 2 ^ 20 by ac_rfl, ← hdm, Nat.add_mul]
      have : 1 ≤ r := by omega
      omega))
    refine Nat.lt_of_lt_of_le ?_ h1
    rw [← Nat.mul_assoc]
    exact Nat.mul_lt_mul_of_pos_right (by omega) hK

/-- x is the float nearest to z / d -/
def QuotIs (x : UInt64) (z : Int) (d : Nat) : Prop := ∃ t, t < infMag ∧ x = pack (decide (z < 0)) t ∧ (z.natAbs / d) * 2 ^ 1074 ≤ V t ∧ V t < (z.natAbs / d + 1) * 2 ^ 1074 ∧ (z.natAbs % d = 0 → V t = (z.natAbs / d) * 2 ^ 1074) ∧ (z.natAbs % d ≠ 0 → (z.natAbs / d) * 2 ^ 1074 < V t)

theorem ac_one (a b c : Nat) : 2 * (a * b * c) = (2 * (a * b)) * c := by ac_rfl
theorem ac_two (a b c : Nat) : a * b * c = (b * c) * a := by ac_rfl
theorem quotIs_of {x : UInt64} {z : Int} {W D d : Nat} (h : Right x (decide (z < 0)) W D) (hD : 0 < D) (hd : 0 < d) (hd2 : d < 2 ^ 20) (hN : z.natAbs < 2 ^ 32) (hW : W * d = z.natAbs * 2 ^ 1074 * D) : QuotIs x z d := by
  obtain ⟨t, hr, hle, hinf, hnear⟩ := h
  have hlt : t < infMag := by
    refine Nat.lt_of_le_of_ne hle fun e => ?_
    have h1 := hinf.mp e
    have h3 : D * ((2 ^ 54 - 1) * 2 ^ 2045) * d ≤ 2 * W * d := Nat.mul_le_mul_right _ h1
    rw [show 2 * W * d = 2 * (W * d) by ac_rfl, hW, ac_one _ (2 ^ 1074) D, ac_two D ((2 ^ 54 - 1) * 2 ^ 2045) d] at h3
    have h4 := Nat.le_of_mul_le_mul_right h3 hD
    have h5 : (2 ^ 54 - 1) * 2 ^ 2045 * 1 ≤ (2 ^ 54 - 1) * 2 ^ 2045 * d := Nat.mul_le_mul_left _ hd
    have e1 : (2 : Nat) ^ 2045 = 2 ^ 971 * 2 ^ 1074 := by rw [← Nat.pow_add]
    have h6 : 2 ^ 32 ≤ (2 : Nat) ^ 971 := Nat.pow_le_pow_right (by decide) (by decide)
    have hK : 0 < (2 : Nat) ^ 1074 := Nat.two_pow_pos _
    rw [e1] at h4 h5
    generalize (2 : Nat) ^ 1074 = K at *
    generalize (2 : Nat) ^ 971 = J at *
    have h7 : z.natAbs * K < 2 ^ 32 * K := Nat.mul_lt_mul_of_pos_right hN hK
    have h8 : 2 ^ 32 * K ≤ J * K := Nat.mul_le_mul_right _ h6
    generalize J * K = L at *
    generalize z.natAbs * K = P at *
    omega
  exact ⟨t, hlt, hr, quot_bounds hD (fun t' => (hnear hlt t').1) hd hd2 hN hW⟩

theorem pow_cast (n : Nat) : (2 : Int) ^ n = ((2 ^ n : Nat) : Int) := by simp
theorem floorOf_val {x : UInt64} {a : Bool} {m : Nat} {e : Int} (hx : decode x = .fin a m e) : floorOf a m e = (val x).fdiv ((2 ^ 1074 : Nat) : Int) := by
  have he := decode_ge hx
  rw [val_eq hx, sgn_mul]
  unfold floorOf
  split
  · rename_i h
    have e1 : (e + 1074).toNat = e.toNat + 1074 := by omega
    rw [e1, Nat.pow_add, Int.natCast_mul, ← Int.mul_assoc, Int.mul_fdiv_cancel, pow_cast]
    have : 0 < (2 : Nat) ^ 1074 := Nat.two_pow_pos _
    omega
  · rename_i h
    have e1 : (1074 : Nat) = (-e).toNat + (e + 1074).toNat := by omega
    rw [show (2 : Nat) ^ 1074 = 2 ^ (-e).toNat * 2 ^ (e + 1074).toNat by rw [← Nat.pow_add, ← e1], Int.natCast_mul, pow_cast]
    have h2 : (0 : Int) < ((2 ^ (e + 1074).toNat : Nat) : Int) := Int.ofNat_lt.mpr (Nat.two_pow_pos _)
    rw [Int.mul_fdiv_mul_of_pos_left _ _ h2]
theorem sgn_f (k : Nat) : (0 : Int) ≤ sgn false k := by unfold sgn; rw [if_neg (by decide)]; exact Int.natCast_nonneg _
theorem sgn_t (k : Nat) : (0 : Int) ≤ -sgn true k := by unfold sgn; rw [if_pos rfl, Int.neg_neg]; exact Int.natCast_nonneg _
theorem truncOf_val {x : UInt64} {a : Bool} {m : Nat} {e : Int} (hx : decode x = .fin a m e) : truncOf a m e = (val x).tdiv ((2 ^ 1074 : Nat) : Int) := by
  have hK : 0 < (2 : Nat) ^ 1074 := Nat.two_pow_pos _
  have hv := val_eq hx
  have hf := floorOf_val hx
  unfold truncOf
  cases a with
  | false =>
    rw [if_neg (by decide), hf]
    generalize (2 : Nat) ^ 1074 = K at *
    rw [Int.fdiv_eq_tdiv_of_nonneg (by rw [hv]; exact sgn_f _) (by omega)]
  | true =>
    rw [if_pos rfl]
    unfold ceilOf
    have h2 := neg_decode hx
    have h3 := neg_val hx
    have hf2 := floorOf_val h2
    rw [hf2, h3, hv]
    generalize (2 : Nat) ^ 1074 = K at *
    rw [Int.fdiv_eq_tdiv_of_nonneg (sgn_t _) (by omega), Int.neg_tdiv]
    omega

theorem quotIs_fin {x : UInt64} {z : Int} {d : Nat} (h : QuotIs x z d) : ∃ m e, decode x = .fin (decide (z < 0)) m e := by
  obtain ⟨t, hlt, rfl, -⟩ := h
  obtain ⟨m, e, hd, -⟩ := decode_pack (decide (z < 0)) hlt
  exact ⟨m, e, hd⟩

theorem quotIs_floor {x : UInt64} {z : Int} {d : Nat} (hd : 0 < d) (h : QuotIs x z d) : Flt.toInt floorOf x = z / (d : Int) := by
  obtain ⟨m, e, hde⟩ := quotIs_fin h
  rw [Flt.toInt_fin hde, floorOf_val hde]
  obtain ⟨t, hlt, rfl, h1, h2, h3, h4⟩ := h
  rw [val_pack _ hlt]
  have hK : 0 < (2 : Nat) ^ 1074 := Nat.two_pow_pos _
  generalize (2 : Nat) ^ 1074 = K at *
  have hdm := Nat.div_add_mod z.natAbs d
  have hr := Nat.mod_lt z.natAbs hd
  rw [Int.fdiv_eq_ediv_of_nonneg _ (by omega)]
  by_cases hz : z < 0
  · rw [decide_eq_true hz]
    have e1 : sgn true (V t) = -(V t : Int) := rfl
    rw [e1]
    by_cases h0 : z.natAbs % d = 0
    · have hz2 : z = -((z.natAbs / d : Nat) : Int) * (d : Int) := by
        rw [h0, Nat.add_zero] at hdm
        have : ((d * (z.natAbs / d) : Nat) : Int) = (z.natAbs : Int) := by rw [hdm]
        rw [Int.natCast_mul] at this
        rw [Int.neg_mul, Int.mul_comm, this]; omega
      rw [h3 h0]
      generalize z.natAbs / d = q at *
      rw [hz2, Int.mul_ediv_cancel _ (by omega), Int.natCast_mul, ← Int.neg_mul, Int.mul_ediv_cancel _ (by omega)]
    · have h5 := h4 h0
      generalize hq : z.natAbs / d = q at *
      generalize hrr : z.natAbs % d = r at *
      have a1 : -(V t : Int) / (K : Int) = -(q : Int) - 1 := by
        refine Int.ediv_eq_iff_of_pos (by omega) |>.mpr ⟨?_, ?_⟩
        · rw [Int.sub_mul, Int.neg_mul, Int.one_mul]
          rw [Nat.add_mul, Nat.one_mul] at h2
          have : (V t : Int) < (q : Int) * (K : Int) + K := by rw [← Int.natCast_mul]; omega
          omega
        · rw [Int.sub_mul, Int.neg_mul, Int.one_mul]
          have : (q : Int) * (K : Int) < V t := by rw [← Int.natCast_mul]; omega
          omega
      have a2 : z / (d : Int) = -(q : Int) - 1 := by
        refine Int.ediv_eq_iff_of_pos (by omega) |>.mpr ⟨?_, ?_⟩
        · rw [Int.sub_mul, Int.neg_mul, Int.one_mul]
          have : (q : Int) * (d : Int) + r = z.natAbs := by rw [Int.mul_comm, ← Int.natCast_mul]; omega
          omega
        · rw [Int.sub_mul, Int.neg_mul, Int.one_mul]
          have : (q : Int) * (d : Int) + r = z.natAbs := by rw [Int.mul_comm, ← Int.natCast_mul]; omega
          omega
      rw [a1, a2]
  · rw [decide_eq_false hz]
    have e1 : sgn false (V t) = (V t : Int) := rfl
    rw [e1]
    have e2 : z = (z.natAbs : Int) := by omega
    have e3 : (V t : Int) / (K : Int) = ((V t / K : Nat) : Int) := by rw [Int.natCast_ediv]
    have e4 : z / (d : Int) = ((z.natAbs / d : Nat) : Int) := by rw [Int.natCast_ediv, ← e2]
    rw [e3, e4]
    congr 1
    generalize z.natAbs / d = q at *
    rw [Nat.div_eq_iff (by omega)]
    rw [Nat.add_mul, Nat.one_mul] at h2
    omega

theorem quotIs_trunc {x : UInt64} {z : Int} {d : Nat} (hd : 0 < d) (hz : 0 ≤ z) (h : QuotIs x z d) : Flt.toInt truncOf x = z / (d : Int) := by
  rw [← quotIs_floor hd h]
  obtain ⟨m, e, hde⟩ := quotIs_fin h
  rw [Flt.toInt_fin hde, Flt.toInt_fin hde]
  have : decide (z < 0) = false := by rw [decide_eq_false_iff_not]; omega
  rw [this]
  rfl

theorem quotIs_finite {x : UInt64} {z : Int} {d : Nat} (h : QuotIs x z d) : Float64.isNaN x = false ∧ Float64.isInf x = false ∧ Float64.isFinite x = true := by
  obtain ⟨m, e, hde⟩ := quotIs_fin h
  refine ⟨?_, ?_, ?_⟩
  · unfold Float64.isNaN; rw [hde]
  · unfold Float64.isInf; rw [hde]
  · unfold Float64.isFinite; rw [hde]

/-- a half by a positive whole number -/
theorem div_hf {a n : Int} (ha : a.natAbs < 2 ^ 32) (hn : 0 < n) (hn2 : n < 2 ^ 19) : QuotIs (Float64.div (hf a) (Float64.ofInt n)) a (2 * n).toNat := by
  rw [ofInt_hf (by omega)]
  obtain ⟨m, e, hd, hv⟩ := hf_dec (z := a) (by omega)
  obtain ⟨k, f, hd', hv'⟩ := hf_dec (z := 2 * n) (by omega)
  have hk : k ≠ 0 := by
    intro h0
    rw [val_eq hd', h0] at hv'
    have : 0 < (2 : Nat) ^ 1073 := Nat.two_pow_pos _
    generalize (2 : Nat) ^ 1073 = K at *
    have h2 : sgn (decide (2 * n < 0)) (0 * 2 ^ (f + 1074).toNat) = 0 := by rw [Nat.zero_mul]; cases decide (2 * n < 0) <;> rfl
    rw [h2] at hv'
    rcases Int.mul_eq_zero.mp hv'.symm with q | q <;> omega
  have h := div_right hd hd' hk
  have hs : (decide (a < 0) != decide (2 * n < 0)) = decide (a < 0) := by
    have e1 : decide (2 * n < 0) = false := by rw [decide_eq_false_iff_not]; omega
    rw [e1]; cases decide (a < 0) <;> rfl
  rw [hs, hv, hv', abs_mul_cast, abs_mul_cast] at h
  have e2 : (2 * n).natAbs = (2 * n).toNat := by omega
  rw [e2] at h
  have hK : 0 < (2 : Nat) ^ 1073 := Nat.two_pow_pos _
  refine quotIs_of h (Nat.mul_pos (by omega) hK) (by omega) (by omega) ha ?_
  generalize (2 : Nat) ^ 1073 = K
  generalize (2 : Nat) ^ 1074 = K'
  ac_rfl

/-- a whole number by a positive whole number -/
def rf (a b : Int) : UInt64 := Float64.ofFrac (decide (a < 0) != decide (b < 0)) a.natAbs b.natAbs
theorem div_rf {a n : Int} (ha : a.natAbs < 2 ^ 32) (hn : 0 < n) (hn2 : n < 2 ^ 19) : QuotIs (rf a n) a n.toNat := by
  have hs : (decide (a < 0) != decide (n < 0)) = decide (a < 0) := by
    have e1 : decide (n < 0) = false := by rw [decide_eq_false_iff_not]; omega
    rw [e1]; cases decide (a < 0) <;> rfl
  have e2 : n.natAbs = n.toNat := by omega
  unfold rf
  rw [hs, e2]
  refine quotIs_of (ofFrac_right (n := a.natAbs) (d := n.toNat) (W := a.natAbs * 2 ^ 1074) (D := n.toNat) (by omega) rfl (by omega)) (by omega) (by omega) (by omega) ha rfl

theorem hf_quot {a : Int} (ha : a.natAbs < 2 ^ 32) : QuotIs (hf a) a 2 := by
  have h := hf_right a
  refine quotIs_of h (by decide) (by decide) (by decide) ha ?_
  rw [p74]
  generalize (2 : Nat) ^ 1073 = K
  rw [Nat.mul_one, Nat.mul_assoc]

theorem hf_int {a : Int} (ha : a.natAbs < 2 ^ 53) : Flt.toInt truncOf (hf (2 * a)) = a ∨ (2 * a).natAbs ≥ 2 ^ 53 := by
  by_cases h2 : (2 * a).natAbs < 2 ^ 53
  · left
    obtain ⟨m, e, hd, hv⟩ := hf_dec h2
    rw [Flt.toInt_fin hd, truncOf_val hd, hv]
    have hK : 0 < (2 : Nat) ^ 1073 := Nat.two_pow_pos _
    rw [p74]
    generalize (2 : Nat) ^ 1073 = K at *
    rw [Int.natCast_mul, show 2 * a * (K : Int) = a * ((K : Int) * (2 : Nat)) by rw [show ((2 : Nat) : Int) = 2 from rfl]; ac_rfl]
    exact Int.mul_tdiv_cancel _ (by omega)
  · right; omega
end

section
open PySem PySem.W PySem.Float64
theorem zero_pack : zero true = pack true 0 := rfl
theorem isZero_hf {z : Int} (h : z.natAbs < 2 ^ 53) : Float64.isZero (hf z) = decide (z = 0) := by
  rw [Flt.isZero_eq, cmpInt_hf h]
  rcases Int.lt_trichotomy z (2 * 0) with q | q | q
  · rw [Int.compare_eq_lt.mpr q, decide_eq_false (by omega)]; rfl
  · rw [Int.compare_eq_eq.mpr q, decide_eq_true (by omega)]; rfl
  · rw [Int.compare_eq_gt.mpr q, decide_eq_false (by omega)]; rfl
theorem lt_zero_hf {z : Int} (h : z.natAbs < 2 ^ 53) : Float64.lt (hf z) (zero false) = decide (z < 0) := by
  unfold Float64.lt
  rw [zero_hf, cmp_hf h (by decide)]
  rcases Int.lt_trichotomy z 0 with q | q | q
  · rw [Int.compare_eq_lt.mpr q, decide_eq_true q]; rfl
  · rw [Int.compare_eq_eq.mpr q, decide_eq_false (by omega)]; rfl
  · rw [Int.compare_eq_gt.mpr q, decide_eq_false (by omega)]; rfl
theorem copysign_hf {z : Int} (h : z.natAbs < 2 ^ 53) (h0 : 0 ≤ z) : Float64.copysign (zero false) (hf z) = hf 0 := by
  obtain ⟨t, h1, -, h3⟩ := hf_pack h
  rw [decide_eq_false (by omega)] at h3
  have hi : infMag = 2047 * 2 ^ 52 := rfl
  have e1 : Float64.signBit (hf z) = false := by
    unfold Float64.signBit
    rw [h3, pack_toNat false (by omega)]
    have : ((if false = true then 2 ^ 63 else 0) + t) / 2 ^ 63 = 0 := by rw [if_neg (by decide)]; omega
    rw [this]
    rfl
  unfold Float64.copysign
  rw [e1, ← zero_hf]
  rw [if_neg (by decide +kernel)]
  decide +kernel

theorem fmod_hf {a b : Int} (ha : a.natAbs < 2 ^ 53) (hb : b.natAbs < 2 ^ 53) (hb0 : 0 < b) :
    Right (Float64.fmod (hf a) (hf b)) (decide (a < 0)) ((a.natAbs % b.natAbs) * 2 ^ 1073) 1 := by
  obtain ⟨m, e, hd, hv⟩ := hf_dec ha
  obtain ⟨k, f, hd', hv'⟩ := hf_dec hb
  have he := decode_ge hd
  have hf := decode_ge hd'
  have hK : 0 < (2 : Nat) ^ 1073 := Nat.two_pow_pos _
  have hn1 := val_natAbs hd
  have hn2 := val_natAbs hd'
  rw [hv, abs_mul_cast] at hn1
  rw [hv', abs_mul_cast] at hn2
  have hk : k ≠ 0 := by
    intro h0
    rw [h0, Nat.zero_mul] at hn2
    rcases Nat.mul_eq_zero.mp hn2 with q | q
    · omega
    · rw [q] at hK; exact absurd hK (Nat.lt_irrefl 0)
  have e1 : (e - min e f).toNat + (min e f + 1074).toNat = (e + 1074).toNat := by omega
  have e2 : (f - min e f).toNat + (min e f + 1074).toNat = (f + 1074).toNat := by omega
  have hm : Float64.fmod (Mine.hf a) (Mine.hf b) = ofBin (decide (a < 0)) ((m * 2 ^ (e - min e f).toNat) % (k * 2 ^ (f - min e f).toNat)) (min e f) := by
    unfold Float64.fmod
    rw [hd, hd']
    simp only
    rw [if_neg (by simpa using hk)]
    rfl
  have hmod : (m * 2 ^ (e - min e f).toNat) % (k * 2 ^ (f - min e f).toNat) * 2 ^ (min e f + 1074).toNat = (a.natAbs % b.natAbs) * 2 ^ 1073 := by
    rw [← Nat.mul_mod_mul_right, Nat.mul_assoc, Nat.mul_assoc, ← Nat.pow_add, ← Nat.pow_add, e1, e2, ← hn1, ← hn2, Nat.mul_mod_mul_right]
  rw [hm, ← hmod]
  unfold ofBin
  refine ofFrac_right (shift_pos _ _ _ (by decide)) ?_ (by decide)
  have := shift_one ((m * 2 ^ (e - min e f).toNat) % (k * 2 ^ (f - min e f).toNat)) (min e f) 1074 (by omega)
  rw [Nat.mul_one]
  exact this

theorem mod_hf {a n : Int} (ha : a.natAbs < 2 ^ 52) (hn : 0 < n) (hn2 : n < 2 ^ 51) : (Float64.divmod (hf a) (Float64.ofInt n)).2 = hf (a % (2 * n)) := by
  rw [ofInt_hf (by omega)]
  have hr := fmod_hf (a := a) (b := 2 * n) (by omega) (by omega) (by omega)
  have hm0 := Int.emod_nonneg a (show 2 * n ≠ 0 by omega)
  have hm1 := Int.emod_lt_of_pos a (show 0 < 2 * n by omega)
  have hnm := Nat.mod_lt a.natAbs (show 0 < (2 * n).natAbs by omega)
  have key : (Float64.fmod (hf a) (hf (2 * n)) = hf (if a < 0 then -((a.natAbs % (2 * n).natAbs : Nat) : Int) else ((a.natAbs % (2 * n).natAbs : Nat) : Int)) ∨ (a < 0 ∧ a.natAbs % (2 * n).natAbs = 0 ∧ Float64.fmod (hf a) (hf (2 * n)) = zero true)) := by
    by_cases h0 : a < 0
    · by_cases h1 : a.natAbs % (2 * n).natAbs = 0
      · right
        refine ⟨h0, h1, ?_⟩
        rw [zero_pack]
        rw [h1, Nat.zero_mul, decide_eq_true h0] at hr
        exact right_eq hr (by decide) (by decide) (by rw [V_zero])
      · left
        rw [if_pos h0]
        have hz : decide (a < 0) = decide (-((a.natAbs % (2 * n).natAbs : Nat) : Int) < 0) := by apply decide_eq_decide.mpr; omega
        rw [hz] at hr
        exact hf_of hr (by decide) (by omega) (by rw [Nat.one_mul, Int.natAbs_neg, Int.natAbs_natCast])
    · left
      rw [if_neg h0]
      have hz : decide (a < 0) = decide (((a.natAbs % (2 * n).natAbs : Nat) : Int) < 0) := by apply decide_eq_decide.mpr; omega
      rw [hz] at hr
      exact hf_of hr (by decide) (by omega) (by rw [Nat.one_mul, Int.natAbs_natCast])
  have hmodA : 0 ≤ a → a % (2 * n) = ((a.natAbs % (2 * n).natAbs : Nat) : Int) := fun h => by
    rw [Int.natCast_emod]
    congr 1 <;> omega
  have hmodB : a < 0 → a.natAbs % (2 * n).natAbs = 0 → a % (2 * n) = 0 := fun h h1 => by
    refine Int.emod_eq_zero_of_dvd ?_
    have := Nat.dvd_of_mod_eq_zero h1
    exact Int.natAbs_dvd_natAbs.mp this
  have hmodC : a < 0 → a.natAbs % (2 * n).natAbs ≠ 0 → a % (2 * n) = -((a.natAbs % (2 * n).natAbs : Nat) : Int) + 2 * n := fun h h1 => by
    have hdm := Nat.div_add_mod a.natAbs (2 * n).natAbs
    generalize a.natAbs % (2 * n).natAbs = r at *
    generalize a.natAbs / (2 * n).natAbs = q at *
    have e1 : ((2 * n).natAbs : Int) = 2 * n := by omega
    have e2 : a = (-(r : Int) + 2 * n) + (2 * n) * (-(q : Int) - 1) := by
      have h3 : (((2 * n).natAbs * q + r : Nat) : Int) = (a.natAbs : Int) := by rw [hdm]
      rw [Int.natCast_add, Int.natCast_mul, e1] at h3
      rw [Int.mul_sub, Int.mul_one, Int.mul_neg]
      omega
    rw [e2, Int.add_mul_emod_self_left]
    exact Int.emod_eq_of_lt (by omega) (by omega)
  have hdef : (Float64.divmod (hf a) (hf (2 * n))).2 = (if Float64.isZero (Float64.fmod (hf a) (hf (2 * n))) then Float64.copysign (zero false) (hf (2 * n))
      else if Float64.lt (hf (2 * n)) (zero false) != Float64.lt (Float64.fmod (hf a) (hf (2 * n))) (zero false) then Float64.add (Float64.fmod (hf a) (hf (2 * n))) (hf (2 * n)) else Float64.fmod (hf a) (hf (2 * n))) := by
    unfold Float64.divmod
    simp only
    by_cases c1 : Float64.isZero (Float64.fmod (hf a) (hf (2 * n))) = true
    · rw [if_pos c1, if_pos c1]
    · rw [if_neg c1, if_neg c1]
      by_cases c2 : (Float64.lt (hf (2 * n)) (zero false) != Float64.lt (Float64.fmod (hf a) (hf (2 * n))) (zero false)) = true
      · rw [if_pos c2, if_pos c2]
      · rw [if_neg c2, if_neg c2]
  rw [hdef]
  rcases key with hk | ⟨h0, h1, hk⟩
  · rw [hk]
    by_cases h0 : a < 0
    · rw [if_pos h0]
      by_cases h1 : a.natAbs % (2 * n).natAbs = 0
      · rw [h1, isZero_hf (by decide), if_pos (by decide), copysign_hf (by omega) (by omega), hmodB h0 h1]
      · rw [isZero_hf (by omega), if_neg (by simp; omega), lt_zero_hf (by omega), lt_zero_hf (by omega), decide_eq_false (show ¬ 2 * n < 0 by omega), decide_eq_true (show -((a.natAbs % (2 * n).natAbs : Nat) : Int) < 0 by omega), if_pos (by decide),
          add_hf (by omega) (by omega) (by omega), hmodC h0 h1]
    · rw [if_neg h0, hmodA (by omega)]
      by_cases h1 : a.natAbs % (2 * n).natAbs = 0
      · rw [h1, isZero_hf (by decide), if_pos (by decide), copysign_hf (by omega) (by omega)]
        rfl
      · rw [isZero_hf (by omega), if_neg (by simp; omega), lt_zero_hf (by omega), lt_zero_hf (by omega), decide_eq_false (show ¬ 2 * n < 0 by omega), decide_eq_false (show ¬ ((a.natAbs % (2 * n).natAbs : Nat) : Int) < 0 by omega), if_neg (by decide)]
  · rw [hk, if_pos (by decide +kernel), copysign_hf (by omega) (by omega), hmodB h0 h1]
end

section
open PySem PySem.W PySem.Float64 PySem.Calls PyProof.Rows
theorem lit_mayan : (4693266160550936576 : UInt64) = hf 1168565 := by decide +kernel
theorem lit_greg : (4700144277945057280 : UInt64) = hf 3442851 := by decide +kernel
theorem lit_half : (4602678819172646912 : UInt64) = hf 1 := by decide +kernel

/-- the whole-number form: q is the float nearest to a / k -/
def QuotI (q : UInt64) (a k : Int) : Prop := 0 < k ∧ QuotIs q a k.toNat

section
variable {prog : Program} {w : World} {A : Around} {E : Value → Shared → Prop} {s : Shared} {x y : UInt64} {a b n : Int} {t u : Tok} {Q : Value → Shared → Prop}

theorem not_inf_small {n : Int} (h : n.natAbs < 2 ^ 52) : ¬ Float64.isInf (Float64.ofInt n) = true := by
  rw [ofInt_hf h]
  obtain ⟨m, e, hd, -⟩ := hf_dec (z := 2 * n) (by omega)
  unfold Float64.isInf; rw [hd]; exact Bool.false_ne_true

theorem r_add_fi (hx : x = hf a) (ha : a.natAbs < 2 ^ 50) (hn : n.natAbs < 2 ^ 50) (h : Q (.float (hf (a + 2 * n)) s.toks) { s with toks := s.toks + 1 }) : wpAny (model prog w) A (binaryOp .Add (.float x t) (.int n u)) Q E s := by
  subst hx
  rw [← add_hf (a := a) (b := 2 * n) (by omega) (by omega) (by omega), ← ofInt_hf (by omega)] at h
  exact AutoFloatOps.add_fi_1 (not_inf_small (by omega)) h
theorem r_add_if (hx : x = hf a) (ha : a.natAbs < 2 ^ 50) (hn : n.natAbs < 2 ^ 50) (h : Q (.float (hf (2 * n + a)) s.toks) { s with toks := s.toks + 1 }) : wpAny (model prog w) A (binaryOp .Add (.int n u) (.float x t)) Q E s := by
  subst hx
  rw [← add_hf (a := 2 * n) (b := a) (by omega) (by omega) (by omega), ← ofInt_hf (by omega)] at h
  exact AutoFloatOps.add_if_1 (not_inf_small (by omega)) h
theorem r_sub_fi (hx : x = hf a) (ha : a.natAbs < 2 ^ 50) (hn : n.natAbs < 2 ^ 50) (h : Q (.float (hf (a - 2 * n)) s.toks) { s with toks := s.toks + 1 }) : wpAny (model prog w) A (binaryOp .Sub (.float x t) (.int n u)) Q E s := by
  subst hx
  rw [← sub_hf (a := a) (b := 2 * n) (by omega) (by omega) (by omega), ← ofInt_hf (by omega)] at h
  exact AutoFloatOps.sub_fi_1 (not_inf_small (by omega)) h
theorem r_sub_ff (hx : x = hf a) (hy : y = hf b) (ha : a.natAbs < 2 ^ 50) (hb : b.natAbs < 2 ^ 50) (h : Q (.float (hf (a - b)) s.toks) { s with toks := s.toks + 1 }) : wpAny (model prog w) A (binaryOp .Sub (.float x t) (.float y u)) Q E s := by
  subst hx; subst hy
  rw [← sub_hf (a := a) (b := b) (by omega) (by omega) (by omega)] at h
  exact sub_float h
theorem r_add_ff (hx : x = hf a) (hy : y = hf b) (ha : a.natAbs < 2 ^ 50) (hb : b.natAbs < 2 ^ 50) (h : Q (.float (hf (a + b)) s.toks) { s with toks := s.toks + 1 }) : wpAny (model prog w) A (binaryOp .Add (.float x t) (.float y u)) Q E s := by
  subst hx; subst hy
  rw [← add_hf (a := a) (b := b) (by omega) (by omega) (by omega)] at h
  exact add_float h
theorem r_mul_if (hx : x = hf a) (ha : a.natAbs < 2 ^ 50) (hn : 0 < n) (hn2 : n < 2 ^ 50) (han : (a * n).natAbs < 2 ^ 50) (h : Q (.float (hf (a * n)) s.toks) { s with toks := s.toks + 1 }) : wpAny (model prog w) A (binaryOp .Mult (.int n u) (.float x t)) Q E s := by
  subst hx
  rw [← mul_hf (a := a) (n := n) (by omega) hn (by omega) (by omega), ← ofInt_hf (by omega), mul_comm_f] at h
  exact AutoFloatOps.mul_if_1 (not_inf_small (by omega)) h
theorem r_mul_fi (hx : x = hf a) (ha : a.natAbs < 2 ^ 50) (hn : 0 < n) (hn2 : n < 2 ^ 50) (han : (a * n).natAbs < 2 ^ 50) (h : Q (.float (hf (a * n)) s.toks) { s with toks := s.toks + 1 }) : wpAny (model prog w) A (binaryOp .Mult (.float x t) (.int n u)) Q E s := by
  subst hx
  rw [← mul_hf (a := a) (n := n) (by omega) hn (by omega) (by omega), ← ofInt_hf (by omega)] at h
  exact AutoFloatOps.mul_fi_1 (not_inf_small (by omega)) h
theorem not_zero_pos {n : Int} (h : 0 < n) : ¬ Float64.isZero (Float64.ofInt n) = true := fun h0 => by
  have := (Flt.isZero_ofInt n).mp h0; omega
theorem r_mod_fi (hx : x = hf a) (ha : a.natAbs < 2 ^ 50) (hn : 0 < n) (hn2 : n < 2 ^ 50) (h : Q (.float (hf (a % (2 * n))) s.toks) { s with toks := s.toks + 1 }) : wpAny (model prog w) A (binaryOp .Mod (.float x t) (.int n u)) Q E s := by
  subst hx
  rw [← mod_hf (a := a) (n := n) (by omega) hn (by omega)] at h
  exact AutoFloatOps.mod_fi_2 (not_inf_small (by omega)) (not_zero_pos hn) h
theorem r_div_fi (hx : x = hf a) (ha : a.natAbs < 2 ^ 32) (hn : 0 < n) (hn2 : n < 2 ^ 19) (h : ∀ q, QuotI q a (2 * n) → Q (.float q s.toks) { s with toks := s.toks + 1 }) : wpAny (model prog w) A (binaryOp .Div (.float x t) (.int n u)) Q E s := by
  subst hx
  exact AutoFloatOps.truediv_fi_2 (not_inf_small (by omega)) (not_zero_pos hn) (h _ ⟨by omega, div_hf ha hn hn2⟩)
theorem r_div_ii (ha : a.natAbs < 2 ^ 32) (hn : 0 < n) (hn2 : n < 2 ^ 19) (h : QuotI (rf a n) a n → Q (.float (rf a n) s.toks) { s with toks := s.toks + 1 }) : wpAny (model prog w) A (binaryOp .Div (.int a t) (.int n u)) Q E s := by
  have hq := div_rf ha hn hn2
  have hf := quotIs_finite hq
  unfold rf at hf
  exact AutoIntOps.truediv_2 (by simp; omega) (by rw [hf.2.1]; exact Bool.false_ne_true) (h ⟨hn, hq⟩)

theorem quot_val {f : Bool → Nat → Int → Int} {z : Int} {d : Nat} (h : QuotIs x z d) (hv : Flt.toInt f x = n) : ∃ sg m e, Float64.decode x = .fin sg m e ∧ f sg m e = n := by
  obtain ⟨m, e, hd⟩ := quotIs_fin h
  exact ⟨_, m, e, hd, by rw [← hv, Flt.toInt_fin hd]⟩

theorem r_floor (hA : A.handled = none) (hq : QuotI x a n) (h : Q (.int (a / n) s.toks) { s with toks := s.toks + 1 }) : wpAny (model prog w) A (call (.builtin "math.floor") [.float x t]) Q E s := by
  obtain ⟨h0, hq⟩ := hq
  obtain ⟨f1, f2, f3⟩ := quotIs_finite hq
  refine Flt.call_floor_float hA (fun e => by rw [f1] at e; cases e) (fun e => by rw [f2] at e; cases e) fun _ => ?_
  rw [quotIs_floor (by omega) hq, show ((n.toNat : Nat) : Int) = n by omega]
  exact h
theorem r_floor_hf (hA : A.handled = none) (hx : x = hf a) (ha : a.natAbs < 2 ^ 32) (h : Q (.int (a / 2) s.toks) { s with toks := s.toks + 1 }) : wpAny (model prog w) A (call (.builtin "math.floor") [.float x t]) Q E s := by
  subst hx
  exact r_floor hA (n := 2) ⟨by decide, hf_quot ha⟩ h
theorem r_trunc (hA : A.handled = none) (hq : QuotI x a n) (ha : 0 ≤ a) (h : Q (.int (a / n) s.toks) { s with toks := s.toks + 1 }) : wpAny (model prog w) A (call (.builtin "math.trunc") [.float x t]) Q E s := by
  obtain ⟨h0, hq⟩ := hq
  obtain ⟨f1, f2, f3⟩ := quotIs_finite hq
  refine Flt.call_trunc_float hA (fun e => by rw [f1] at e; cases e) (fun e => by rw [f2] at e; cases e) fun _ => ?_
  rw [quotIs_trunc (by omega) ha hq, show ((n.toNat : Nat) : Int) = n by omega]
  exact h
theorem r_trunc_hf (hA : A.handled = none) (hx : x = hf a) (ha : a.natAbs < 2 ^ 32) (h0 : 0 ≤ a) (h : Q (.int (a / 2) s.toks) { s with toks := s.toks + 1 }) : wpAny (model prog w) A (call (.builtin "math.trunc") [.float x t]) Q E s := by
  subst hx
  exact r_trunc hA (n := 2) ⟨by decide, hf_quot ha⟩ h0 h
theorem r_int_hf (hA : A.handled = none) (hx : x = hf a) (ha : a.natAbs < 2 ^ 32) (h0 : 0 ≤ a ∨ a % 2 = 0) (h : Q (.int (a / 2) s.toks) { s with toks := s.toks + 1 }) : wpAny (model prog w) A (call (.type "int") [.float x t]) Q E s := by
  subst hx
  obtain ⟨f1, f2, f3⟩ := quotIs_finite (hf_quot ha)
  refine Flt.call_int_float3 hA (fun e => by rw [f1] at e; cases e) (fun e => by rw [f2] at e; cases e) fun _ => ?_
  have e : Flt.toInt Float64.truncOf (hf a) = a / 2 := by
    rcases h0 with h0 | h0
    · exact quotIs_trunc (by decide) h0 (hf_quot ha)
    · rcases hf_int (a := a / 2) (by omega) with e | e
      · rw [show 2 * (a / 2) = a by omega] at e
        exact e
      · omega
  rw [e]
  exact h

theorem r_lt_fi (hx : x = hf a) (ha : a.natAbs < 2 ^ 50) (h : Q (.bool (decide (a < 2 * n))) s) : wpAny (model prog w) A (compareOp .Lt (.float x t) (.int n u)) Q E s := by
  subst hx
  refine lt_fi ?_
  have e : (Float64.cmpInt (hf a) n == some Ordering.lt) = decide (a < 2 * n) := by
    rw [cmpInt_hf (by omega)]
    rcases Int.lt_trichotomy a (2 * n) with q | q | q
    · rw [Int.compare_eq_lt.mpr q, decide_eq_true q]; rfl
    · rw [Int.compare_eq_eq.mpr q, decide_eq_false (by omega)]; rfl
    · rw [Int.compare_eq_gt.mpr q, decide_eq_false (by omega)]; rfl
  rw [e]
  exact h
theorem r_ne_ff (hx : x = hf a) (hy : y = hf b) (ha : a.natAbs < 2 ^ 50) (hb : b.natAbs < 2 ^ 50) (h : Q (.bool (a != b)) s) : wpAny (model prog w) A (compareOp .NotEq (.float x t) (.float y u)) Q E s := by
  subst hx; subst hy
  refine AutoFloatOps.ne_0 ?_
  have e : (Float64.cmp (hf a) (hf b) != some Ordering.eq) = (a != b) := by
    rw [cmp_hf (by omega) (by omega)]
    rcases Int.lt_trichotomy a b with q | q | q
    · rw [Int.compare_eq_lt.mpr q, show (a != b) = true by simp; omega]; rfl
    · subst q; simp
    · rw [Int.compare_eq_gt.mpr q, show (a != b) = true by simp; omega]; rfl
  rw [e]
  exact h
end
end

section

/-! the plain calendar -/
def leapI (y : Int) : Int := if y % 4 = 0 ∧ (y % 100 ≠ 0 ∨ y % 400 = 0) then 1 else 0
theorem leapI_01 (y : Int) : 0 ≤ leapI y ∧ leapI y ≤ 1 := by unfold leapI; split <;> omega
def adjI (y m : Int) : Int := if m ≤ 2 then 0 else leapI y - 2
/-- days ahead of the year y -/
def jan1 (y : Int) : Int := 365 * (y - 1) + (y - 1) / 4 - (y - 1) / 100 + (y - 1) / 400
/-- the day's number, the first of January of the year one being 1 -/
def dayNo (y m d : Int) : Int := jan1 y + ((367 * m - 362) / 12 + adjI y m + d)

theorem fm4 (y : Int) : y.fmod 4 = y % 4 := Int.fmod_eq_emod_of_nonneg y (by decide)
theorem fm100 (y : Int) : y.fmod 100 = y % 100 := Int.fmod_eq_emod_of_nonneg y (by decide)
theorem fm400 (y : Int) : y.fmod 400 = y % 400 := Int.fmod_eq_emod_of_nonneg y (by decide)
theorem leap_a {y : Int} (h : y.fmod 4 ≠ 0) : (y.fmod 4 == 0) = decide (leapI y = 1) := by
  rw [fm4] at *
  unfold leapI
  rw [if_neg (by omega)]
  simp [h]
theorem leap_b {y : Int} (h : y.fmod 4 = 0) (h2 : y.fmod 100 ≠ 0) : (y.fmod 100 != 0) = decide (leapI y = 1) := by
  rw [fm4] at h; rw [fm100] at *
  unfold leapI
  rw [if_pos (by omega)]
  simp [h2]
theorem leap_c {y : Int} (h : y.fmod 4 = 0) (h2 : y.fmod 100 = 0) : (y.fmod 400 == 0) = decide (leapI y = 1) := by
  rw [fm4] at h; rw [fm100] at h2; rw [fm400]
  unfold leapI
  by_cases h3 : y % 400 = 0
  · rw [if_pos (by omega)]; simp [h3]
  · rw [if_neg (by omega)]; simp [h3]
theorem fm365 (y : Int) : y.fmod 365 = y % 365 := Int.fmod_eq_emod_of_nonneg y (by decide)
theorem fm20 (y : Int) : y.fmod 20 = y % 20 := Int.fmod_eq_emod_of_nonneg y (by decide)
theorem fm18 (y : Int) : y.fmod 18 = y % 18 := Int.fmod_eq_emod_of_nonneg y (by decide)
theorem fm13 (y : Int) : y.fmod 13 = y % 13 := Int.fmod_eq_emod_of_nonneg y (by decide)
theorem fm1000 (y : Int) : y.fmod 1000 = y % 1000 := Int.fmod_eq_emod_of_nonneg y (by decide)
theorem fd2 (y : Int) : y.fdiv 2 = y / 2 := Int.fdiv_eq_ediv_of_nonneg y (by decide)
theorem fd20 (y : Int) : y.fdiv 20 = y / 20 := Int.fdiv_eq_ediv_of_nonneg y (by decide)
theorem fd360 (y : Int) : y.fdiv 360 = y / 360 := Int.fdiv_eq_ediv_of_nonneg y (by decide)
theorem fd7200 (y : Int) : y.fdiv 7200 = y / 7200 := Int.fdiv_eq_ediv_of_nonneg y (by decide)
theorem fd144000 (y : Int) : y.fdiv 144000 = y / 144000 := Int.fdiv_eq_ediv_of_nonneg y (by decide)
/-! the rounds -/
def haabL : List PySem.Str := [PySem.Str.ofString "Pop", PySem.Str.ofString "Wo'", PySem.Str.ofString "Zip", PySem.Str.ofString "Sotz'", PySem.Str.ofString "Sek", PySem.Str.ofString "Xul", PySem.Str.ofString "Yaxk'in'", PySem.Str.ofString "Mol", PySem.Str.ofString "Ch'en", PySem.Str.ofString "Yax", PySem.Str.ofString "Sak'", PySem.Str.ofString "Keh", PySem.Str.ofString "Mak", PySem.Str.ofString "K'ank'in", PySem.Str.ofString "Muwan'", PySem.Str.ofString "Pax", PySem.Str.ofString "K'ayab", PySem.Str.ofString "Kumk'u", PySem.Str.ofString "Wayeb'"]
def tzolL : List PySem.Str := [PySem.Str.ofString "Imix'", PySem.Str.ofString "Ik'", PySem.Str.ofString "Ak'b'al", PySem.Str.ofString "K'an", PySem.Str.ofString "Chikchan", PySem.Str.ofString "Kimi", PySem.Str.ofString "Manik'", PySem.Str.ofString "Lamat", PySem.Str.ofString "Muluk", PySem.Str.ofString "Ok", PySem.Str.ofString "Chuwen", PySem.Str.ofString "Eb'", PySem.Str.ofString "B'en", PySem.Str.ofString "Ix", PySem.Str.ofString "Men", PySem.Str.ofString "K'ib'", PySem.Str.ofString "Kab'an", PySem.Str.ofString "Etz'nab'", PySem.Str.ofString "Kawak", PySem.Str.ofString "Ajaw"]
def haabDay (T : Int) : Int := (T + 348) % 365 % 20
def haabName (T : Int) : PySem.Str := haabL.getD ((T + 348) % 365 / 20).toNat PySem.Str.empty
def tzolDay (T : Int) : Int := (T + 3) % 13 + 1
def tzolName (T : Int) : PySem.Str := tzolL.getD ((T + 19) % 20).toNat PySem.Str.empty
theorem haab_at {T k : Int} (h : k = (T + 348) % 365 / 20) : haabL.getD k.toNat PySem.Str.empty = haabName T := by subst h; rfl
theorem tzol_at {T k : Int} (h : k = (T + 19) % 20) : tzolL.getD k.toNat PySem.Str.empty = tzolName T := by subst h; rfl
theorem haab_tab : ∀ k : Fin 19, (haabL.getD k.1 PySem.Str.empty).length ≤ 100 := by decide +kernel
theorem tzol_tab : ∀ k : Fin 20, (tzolL.getD k.1 PySem.Str.empty).length ≤ 100 := by decide +kernel
theorem haabName_len (T : Int) : (haabName T).length ≤ 100 := haab_tab ⟨((T + 348) % 365 / 20).toNat, by omega⟩
theorem tzolName_len (T : Int) : (tzolName T).length ≤ 100 := tzol_tab ⟨((T + 19) % 20).toNat, by omega⟩
theorem haabDay_bd (T : Int) : 0 ≤ haabDay T ∧ haabDay T < 100 := by unfold haabDay; omega
theorem tzolDay_bd (T : Int) : 0 ≤ tzolDay T ∧ tzolDay T < 100 := by unfold tzolDay; omega
def roundText (T : Int) : PySem.Str := (((((PySem.Str.ofString (toString (tzolDay T)) ++ PySem.Str.ofString " ") ++ tzolName T) ++ PySem.Str.ofString " ") ++ PySem.Str.ofString (toString (haabDay T))) ++ PySem.Str.ofString " ") ++ haabName T
end

section
open PySem PySem.W PySem.Float64 PySem.Calls PyProof.Rows
/-- the days of a month's turn, as floats -/
def monthF (m k d : Int) : UInt64 := Float64.add (Float64.add (rf (367 * m - 362) 12) (Float64.ofInt k)) (Float64.ofInt d)
def monthOk (m k d : Nat) : Bool := match Float64.decode (monthF ((m : Int) + 1) (-(k : Int)) ((d : Int) + 1)) with
  | .fin s mm e => Float64.floorOf s mm e == (367 * ((m : Int) + 1) - 362) / 12 + -(k : Int) + ((d : Int) + 1)
  | _ => false
theorem month_t0 : ∀ k : Fin 3, ∀ d : Fin 31, monthOk 0 k.1 d.1 = true := by decide +kernel
theorem month_t1 : ∀ k : Fin 3, ∀ d : Fin 31, monthOk 1 k.1 d.1 = true := by decide +kernel
theorem month_t2 : ∀ k : Fin 3, ∀ d : Fin 31, monthOk 2 k.1 d.1 = true := by decide +kernel
theorem month_t3 : ∀ k : Fin 3, ∀ d : Fin 31, monthOk 3 k.1 d.1 = true := by decide +kernel
theorem month_t4 : ∀ k : Fin 3, ∀ d : Fin 31, monthOk 4 k.1 d.1 = true := by decide +kernel
theorem month_t5 : ∀ k : Fin 3, ∀ d : Fin 31, monthOk 5 k.1 d.1 = true := by decide +kernel
theorem month_t6 : ∀ k : Fin 3, ∀ d : Fin 31, monthOk 6 k.1 d.1 = true := by decide +kernel
theorem month_t7 : ∀ k : Fin 3, ∀ d : Fin 31, monthOk 7 k.1 d.1 = true := by decide +kernel
theorem month_t8 : ∀ k : Fin 3, ∀ d : Fin 31, monthOk 8 k.1 d.1 = true := by decide +kernel
theorem month_t9 : ∀ k : Fin 3, ∀ d : Fin 31, monthOk 9 k.1 d.1 = true := by decide +kernel
theorem month_t10 : ∀ k : Fin 3, ∀ d : Fin 31, monthOk 10 k.1 d.1 = true := by decide +kernel
theorem month_t11 : ∀ k : Fin 3, ∀ d : Fin 31, monthOk 11 k.1 d.1 = true := by decide +kernel
theorem month_tab : ∀ m : Fin 12, ∀ k : Fin 3, ∀ d : Fin 31, monthOk m.1 k.1 d.1 = true
  | ⟨0, _⟩ => month_t0
  | ⟨1, _⟩ => month_t1
  | ⟨2, _⟩ => month_t2
  | ⟨3, _⟩ => month_t3
  | ⟨4, _⟩ => month_t4
  | ⟨5, _⟩ => month_t5
  | ⟨6, _⟩ => month_t6
  | ⟨7, _⟩ => month_t7
  | ⟨8, _⟩ => month_t8
  | ⟨9, _⟩ => month_t9
  | ⟨10, _⟩ => month_t10
  | ⟨11, _⟩ => month_t11
  | ⟨n + 12, h⟩ => absurd h (by omega)

section
variable {prog : Program} {w : World} {A : Around} {E : Value → Shared → Prop} {s : Shared} {x : UInt64} {a b n : Int} {t u : Tok} {Q : Value → Shared → Prop}
theorem r_add_rf (hn : n.natAbs < 2 ^ 50) (h : Q (.float (Float64.add (rf a b) (Float64.ofInt n)) s.toks) { s with toks := s.toks + 1 }) : wpAny (model prog w) A (binaryOp .Add (.float (rf a b) t) (.int n u)) Q E s :=
  AutoFloatOps.add_fi_1 (not_inf_small (by omega)) h
theorem r_add_rf2 {k : Int} (hn : n.natAbs < 2 ^ 50) (h : Q (.float (Float64.add (Float64.add (rf a b) (Float64.ofInt k)) (Float64.ofInt n)) s.toks) { s with toks := s.toks + 1 }) : wpAny (model prog w) A (binaryOp .Add (.float (Float64.add (rf a b) (Float64.ofInt k)) t) (.int n u)) Q E s :=
  AutoFloatOps.add_fi_1 (not_inf_small (by omega)) h
theorem r_floor_month {m k d : Int} (hA : A.handled = none) (h1 : 1 ≤ m ∧ m ≤ 12) (h2 : -2 ≤ k ∧ k ≤ 0) (h3 : 1 ≤ d ∧ d ≤ 31) (h : Q (.int ((367 * m - 362) / 12 + k + d) s.toks) { s with toks := s.toks + 1 }) :
    wpAny (model prog w) A (call (.builtin "math.floor") [.float (Float64.add (Float64.add (rf (367 * m - 362) 12) (Float64.ofInt k)) (Float64.ofInt d)) t]) Q E s := by
  have ht := month_tab ⟨(m - 1).toNat, by omega⟩ ⟨(-k).toNat, by omega⟩ ⟨(d - 1).toNat, by omega⟩
  unfold monthOk at ht
  simp only at ht
  rw [show (((m - 1).toNat : Nat) : Int) + 1 = m by omega, show -(((-k).toNat : Nat) : Int) = k by omega, show (((d - 1).toNat : Nat) : Int) + 1 = d by omega] at ht
  show wpAny (model prog w) A (call (.builtin "math.floor") [.float (monthF m k d) t]) Q E s
  generalize monthF m k d = y at *
  split at ht
  · rename_i sg mm e hd
    refine Flt.call_floor_float hA (fun c => ?_) (fun c => ?_) fun _ => ?_
    · unfold Float64.isNaN at c; rw [hd] at c; cases c
    · unfold Float64.isInf at c; rw [hd] at c; cases c
    · rw [Flt.toInt_fin hd, beq_iff_eq.mp ht]
      exact h
  · cases ht
end
end

section

/-! from the day's number back to the date: n counts from the first of January of the year one, that being 0 -/
def gqc (n : Int) : Int := n / 146097
def gc (n : Int) : Int := n % 146097 / 36524
def gq (n : Int) : Int := n % 146097 % 36524 / 1461
def gy (n : Int) : Int := n % 146097 % 36524 % 1461 / 365
def gYear (n : Int) : Int := gqc n * 400 + gc n * 100 + gq n * 4 + gy n + (if gc n = 4 ∨ gy n = 4 then 0 else 1)
def gYd (n : Int) : Int := n - jan1 (gYear n)
def gLa (n : Int) : Int := if gYd n < 58 + leapI (gYear n) then 0 else if leapI (gYear n) = 1 then 1 else 2
def gMonth (n : Int) : Int := ((gYd n + gLa n) * 12 + 373) / 367
def gDay (n : Int) : Int := n + 1 - dayNo (gYear n) (gMonth n) 1 + 1

/-- the year's first day is not behind n, the next year's is -/
theorem gYear_fact (n : Int) : 0 ≤ gYd n ∧ gYd n ≤ 364 + leapI (gYear n) := by
  have h1 : n = 146097 * gqc n + n % 146097 := by unfold gqc; omega
  have h2 : 0 ≤ n % 146097 ∧ n % 146097 < 146097 := by omega
  have h3 : n % 146097 = 36524 * gc n + n % 146097 % 36524 := by unfold gc; omega
  have h4 : 0 ≤ n % 146097 % 36524 ∧ n % 146097 % 36524 < 36524 := by omega
  have h5 : n % 146097 % 36524 = 1461 * gq n + n % 146097 % 36524 % 1461 := by unfold gq; omega
  have h6 : 0 ≤ n % 146097 % 36524 % 1461 ∧ n % 146097 % 36524 % 1461 < 1461 := by omega
  have h7 : n % 146097 % 36524 % 1461 = 365 * gy n + n % 146097 % 36524 % 1461 % 365 := by unfold gy; omega
  have h8 : 0 ≤ n % 146097 % 36524 % 1461 % 365 ∧ n % 146097 % 36524 % 1461 % 365 < 365 := by omega
  unfold gYd
  have hY : gYear n = gqc n * 400 + gc n * 100 + gq n * 4 + gy n + (if gc n = 4 ∨ gy n = 4 then 0 else 1) := rfl
  generalize n % 146097 % 36524 % 1461 % 365 = r4 at *
  generalize n % 146097 % 36524 % 1461 = r3 at *
  generalize n % 146097 % 36524 = r2 at *
  generalize n % 146097 = r1 at *
  generalize gYear n = Y at *
  generalize gqc n = Q at *
  generalize gc n = C at *
  generalize gq n = K at *
  generalize gy n = y at *
  have hC : 0 ≤ C ∧ C ≤ 4 := by omega
  have hK : 0 ≤ K ∧ K ≤ 24 := by omega
  have hy : 0 ≤ y ∧ y ≤ 4 := by omega
  -- the year ahead of Y, within its four centuries
  have key : ∀ z a b : Int, Y - 1 = 400 * Q + z → 4 * a ≤ z → z ≤ 4 * a + 3 → 100 * b ≤ z → z ≤ 100 * b + 99 → 0 ≤ z → z ≤ 399 → jan1 Y = 146097 * Q + (365 * z + a - b) := by
    intro z a b hz h1 h2 h3 h4 h5 h6
    unfold jan1
    have e4 : (Y - 1) / 4 = 100 * Q + a := by omega
    have e100 : (Y - 1) / 100 = 4 * Q + b := by omega
    have e400 : (Y - 1) / 400 = Q := by omega
    rw [e4, e100, e400, hz]
    omega
  have hl := leapI_01 Y
  by_cases hc : C = 4
  · rw [if_pos (.inl hc)] at hY
    have hj := key 399 99 3 (by omega) (by omega) (by omega) (by omega) (by omega) (by omega) (by omega)
    have hL : leapI Y = 1 := by
      have : Y % 400 = 0 := by omega
      unfold leapI
      rw [if_pos (by omega)]
    omega
  · by_cases h4' : y = 4
    · rw [if_pos (.inr h4')] at hY
      have hK23 : K ≤ 23 := by omega
      have hj := key (100 * C + 4 * K + 3) (25 * C + K) C (by omega) (by omega) (by omega) (by omega) (by omega) (by omega) (by omega)
      have hL : leapI Y = 1 := by
        have e1 : Y % 4 = 0 := by omega
        have e2 : Y % 100 ≠ 0 := by omega
        unfold leapI
        rw [if_pos ⟨e1, .inl e2⟩]
      omega
    · rw [if_neg (by omega)] at hY
      have hj := key (100 * C + 4 * K + y) (25 * C + K) C (by omega) (by omega) (by omega) (by omega) (by omega) (by omega) (by omega)
      omega

/-- day of the year to month and day, the rest of the calendar out of sight -/
theorem month_fact (yd l : Int) (hl : 0 ≤ l ∧ l ≤ 1) (h : 0 ≤ yd ∧ yd ≤ 364 + l) (la m : Int) (hla : la = if yd < 58 + l then 0 else if l = 1 then 1 else 2) (hm : m = ((yd + la) * 12 + 373) / 367) :
    1 ≤ m ∧ m ≤ 12 ∧ 1 ≤ yd + 1 - ((367 * m - 362) / 12 + (if m ≤ 2 then 0 else l - 2)) ∧ yd + 1 - ((367 * m - 362) / 12 + (if m ≤ 2 then 0 else l - 2)) ≤ 31 ∧
      (m = 2 → yd + 1 - ((367 * m - 362) / 12 + (if m ≤ 2 then 0 else l - 2)) ≤ 28 + l) ∧ (m = 4 ∨ m = 6 ∨ m = 9 ∨ m = 11 → yd + 1 - ((367 * m - 362) / 12 + (if m ≤ 2 then 0 else l - 2)) ≤ 30) := by
  have hla2 : (yd < 58 + l ∧ la = 0) ∨ (¬ yd < 58 + l ∧ l = 1 ∧ la = 1) ∨ (¬ yd < 58 + l ∧ l = 0 ∧ la = 2) := by
    rw [hla]
    by_cases h1 : yd < 58 + l
    · rw [if_pos h1]; exact .inl ⟨h1, rfl⟩
    · rw [if_neg h1]
      by_cases h2 : l = 1
      · rw [if_pos h2]; exact .inr (.inl ⟨h1, h2, rfl⟩)
      · rw [if_neg h2]; exact .inr (.inr ⟨h1, by omega, rfl⟩)
  clear hla
  have hm12 : 1 ≤ m ∧ m ≤ 12 := by omega
  have hcase : m = 1 ∨ m = 2 ∨ m = 3 ∨ m = 4 ∨ m = 5 ∨ m = 6 ∨ m = 7 ∨ m = 8 ∨ m = 9 ∨ m = 10 ∨ m = 11 ∨ m = 12 := by omega
  refine ⟨hm12.1, hm12.2, ?_⟩
  rcases hcase with e | e | e | e | e | e | e | e | e | e | e | e <;> subst e <;> (first | rw [if_pos (by decide)] | rw [if_neg (by decide)]) <;> omega

/-- the date told is a date, and its day is the one asked for -/
theorem greg_fact (n : Int) : 1 ≤ gMonth n ∧ gMonth n ≤ 12 ∧ 1 ≤ gDay n ∧ gDay n ≤ 31 ∧ (gMonth n = 2 → gDay n ≤ 28 + leapI (gYear n)) ∧ (gMonth n = 4 ∨ gMonth n = 6 ∨ gMonth n = 9 ∨ gMonth n = 11 → gDay n ≤ 30) ∧ dayNo (gYear n) (gMonth n) (gDay n) = n + 1 := by
  have h1 := gYear_fact n
  have h2 := month_fact (gYd n) (leapI (gYear n)) (leapI_01 _) h1 (gLa n) (gMonth n) rfl rfl
  have e : gDay n = gYd n + 1 - ((367 * gMonth n - 362) / 12 + (if gMonth n ≤ 2 then 0 else leapI (gYear n) - 2)) := by
    unfold gDay dayNo adjI gYd
    omega
  rw [← e] at h2
  refine ⟨h2.1, h2.2.1, h2.2.2.1, h2.2.2.2.1, h2.2.2.2.2.1, h2.2.2.2.2.2, ?_⟩
  unfold gDay dayNo
  omega

theorem gYear_bound {n : Int} (h : -2000000 ≤ n ∧ n ≤ 300000000) : -10000 < gYear n ∧ gYear n < 900000 := by
  unfold gYear gqc gc gq gy
  split <;> omega
end

end Mine
open PySem PySem.W PySem.Spec PySem.Calls PyProof.Rows
namespace Mine
open_top hd for PySem.Challenge.rw_ba5010_01

noncomputable abbrev loose : List Str := looseW hd.view_39
      [Str.ofString "to_jd_gregorian", Str.ofString "from_jd_gregorian", Str.ofString "HAAB", Str.ofString "TZOLKIN",
        Str.ofString "to_jd_mayan", Str.ofString "from_jd_mayan"]

/-- a def's word: what a call of it gives back, from whatever state -/
def Tells (w : World) (mean : ExcName → Option Value) (mg mb : Str → Option Value) (f : Addr) (dp0 un0 : Nat) (vs : List Value) (news : List (Addr × Obj))
    (R : Heap → Addr → (Str → Option Value) → Shared → (Value → Shared → Prop) → Prop) : Prop :=
  ∀ (dp un : Nat) (gd : Option (List Code)) (cn : Str) (cs : Scope) (a : Addr) (ccd : Value) (cl : List (Str × Addr)) (outer : List Env) (A₀ : Around) (base h₀ : Heap) (L : Addr) (m : Str → Option Value) (s : Shared) (Q E : Value → Shared → Prop),
    Below A₀ base outer h₀ → Fr h₀ L s.heap m → (hd.heap_39 w.params).In h₀ → News h₀ L s.heap news → Top hd.view_39 loose mean mg mb h₀ → cs.kind = .function →
    dp + dp0 < recursionLimit → un + un0 < cLine → R h₀ L m s Q →
      wpAny (model PySem.Challenge.rw_ba5010_01.row.prog w) (ktrTop dp un gd cn cs L a ccd cl outer) (call (.ref f) vs) Q E s
theorem Tells.use {w : World} {mean : ExcName → Option Value} {mg mb : Str → Option Value} {f : Addr} {dp0 un0 : Nat} {vs : List Value} {news : List (Addr × Obj)} {R : Heap → Addr → (Str → Option Value) → Shared → (Value → Shared → Prop) → Prop}
    {dp un : Nat} {gd : Option (List Code)} {cn : Str} {cs : Scope} {a : Addr} {ccd : Value} {cl : List (Str × Addr)} {outer : List Env} {A₀ : Around} {base h₀ : Heap} {L : Addr} {m : Str → Option Value} {s : Shared} {Q E : Value → Shared → Prop}
    (B : Below A₀ base outer h₀) (F : Fr h₀ L s.heap m) (X : (hd.heap_39 w.params).In h₀) (N : News h₀ L s.heap news) (T : Top hd.view_39 loose mean mg mb h₀) (hk : cs.kind = .function) (C : Tells w mean mg mb f dp0 un0 vs news R)
    (hd : dp + dp0 < recursionLimit) (hu : un + un0 < cLine) (h : R h₀ L m s Q) :
      wpAny (model PySem.Challenge.rw_ba5010_01.row.prog w) (ktrTop dp un gd cn cs L a ccd cl outer) (call (.ref f) vs) Q E s := C _ _ _ _ _ _ _ _ _ _ _ _ _ _ _ _ _ B F X N T hk hd hu h

def RetF (z : Int) (news : List (Addr × Obj)) (h₀ : Heap) (L : Addr) (m : Str → Option Value) (s : Shared) (Q : Value → Shared → Prop) : Prop :=
  ∀ (t : Tok) (h' : Heap) (tk' : Nat), Fr h₀ L h' m → News h₀ L h' news → Q (.float (hf z) t) { s with heap := h', toks := tk' }
def RetI (z : Int) (news : List (Addr × Obj)) (h₀ : Heap) (L : Addr) (m : Str → Option Value) (s : Shared) (Q : Value → Shared → Prop) : Prop :=
  ∀ (t : Tok) (h' : Heap) (tk' : Nat), Fr h₀ L h' m → News h₀ L h' news → Q (.int z t) { s with heap := h', toks := tk' }
def RetB (b : Bool) (news : List (Addr × Obj)) (h₀ : Heap) (L : Addr) (m : Str → Option Value) (s : Shared) (Q : Value → Shared → Prop) : Prop :=
  ∀ (h' : Heap) (tk' : Nat), Fr h₀ L h' m → News h₀ L h' news → Q (.bool b) { s with heap := h', toks := tk' }
def RetS (x : Str) (news : List (Addr × Obj)) (h₀ : Heap) (L : Addr) (m : Str → Option Value) (s : Shared) (Q : Value → Shared → Prop) : Prop :=
  ∀ (t : Tok) (h' : Heap) (tk' : Nat), Fr h₀ L h' m → News h₀ L h' news → Q (.str x t) { s with heap := h', toks := tk' }
abbrev tupO (vs : List Value) (c : Nat) : Obj := { cls := .type "tuple", data := .seq vs.toArray c }
def RetT2 (i : Int) (x : Str) (news : List (Addr × Obj)) (h₀ : Heap) (L : Addr) (m : Str → Option Value) (s : Shared) (Q : Value → Shared → Prop) : Prop :=
  ∀ (D : Addr) (t1 t2 : Tok) (c : Nat) (h' : Heap) (tk' : Nat), Fr h₀ L h' m → News h₀ L h' ((D, ({ cls := .type "tuple", data := .seq #[.int i t1, .str x t2] c } : Obj)) :: news) → AllLt D news → Q (.ref D) { s with heap := h', toks := tk' }
def RetT3 (i j k : Int) (news : List (Addr × Obj)) (h₀ : Heap) (L : Addr) (m : Str → Option Value) (s : Shared) (Q : Value → Shared → Prop) : Prop :=
  ∀ (D : Addr) (t1 t2 t3 : Tok) (c : Nat) (h' : Heap) (tk' : Nat), Fr h₀ L h' m → News h₀ L h' ((D, ({ cls := .type "tuple", data := .seq #[.int i t1, .int j t2, .int k t3] c } : Obj)) :: news) → AllLt D news → Q (.ref D) { s with heap := h', toks := tk' }
def RetT5 (i j k l r : Int) (news : List (Addr × Obj)) (h₀ : Heap) (L : Addr) (m : Str → Option Value) (s : Shared) (Q : Value → Shared → Prop) : Prop :=
  ∀ (D : Addr) (t1 t2 t3 t4 t5 : Tok) (c : Nat) (h' : Heap) (tk' : Nat), Fr h₀ L h' m → News h₀ L h' ((D, ({ cls := .type "tuple", data := .seq #[.int i t1, .int j t2, .int k t3, .int l t4, .int r t5] c } : Obj)) :: news) → AllLt D news → Q (.ref D) { s with heap := h', toks := tk' }

theorem r_in30 {prog : Program} {w : World} {A : Around} {E : Value → Shared → Prop} {s : Shared} {l : Addr} {t1 t2 t3 t4 u : Tok} {k : Int} {Q : Value → Shared → Prop} (hl : IsTup s.heap l [Value.int 4 t1, .int 6 t2, .int 9 t3, .int 11 t4].toArray)
    (h : Q (.bool (decide (k = 4 ∨ k = 6 ∨ k = 9 ∨ k = 11))) s) : wpAny (model prog w) A (compareOp .In (.int k u) (.ref l)) Q E s := by
  refine in_tuple_ints (ns := [4, 6, 9, 11]) hl (by repeat constructor) ?_
  have e : ([4, 6, 9, 11] : List Int).any (· == k) = decide (k = 4 ∨ k = 6 ∨ k = 9 ∨ k = 11) := by
    rw [Bool.eq_iff_iff, decide_eq_true_iff]
    simp only [List.any_cons, List.any_nil, Bool.or_false, Bool.or_eq_true, beq_iff_eq]
    omega
  rw [e]
  exact h

theorem sub1 {a : Addr × Obj} {l : List (Addr × Obj)} : ∀ p ∈ l, p ∈ a :: l := fun _ h => .tail _ h
theorem sub2 {a b : Addr × Obj} {l : List (Addr × Obj)} : ∀ p ∈ l, p ∈ a :: b :: l := fun _ h => .tail _ (.tail _ h)
theorem sub3 {a b c : Addr × Obj} {l : List (Addr × Obj)} : ∀ p ∈ l, p ∈ a :: b :: c :: l := fun _ h => .tail _ (.tail _ (.tail _ h))
theorem sub4 {a b c d : Addr × Obj} {l : List (Addr × Obj)} : ∀ p ∈ l, p ∈ a :: b :: c :: d :: l := fun _ h => .tail _ (.tail _ (.tail _ (.tail _ h)))
theorem sub0 {l : List (Addr × Obj)} : ∀ p ∈ l, p ∈ l := fun _ h => h
theorem sub5 {a b c d e : Addr × Obj} {l : List (Addr × Obj)} : ∀ p ∈ l, p ∈ a :: b :: c :: d :: e :: l := fun _ h => .tail _ (sub4 _ h)
theorem sub6 {a b c d e f : Addr × Obj} {l : List (Addr × Obj)} : ∀ p ∈ l, p ∈ a :: b :: c :: d :: e :: f :: l := fun _ h => .tail _ (sub5 _ h)
theorem sub7 {a b c d e f g : Addr × Obj} {l : List (Addr × Obj)} : ∀ p ∈ l, p ∈ a :: b :: c :: d :: e :: f :: g :: l := fun _ h => .tail _ (sub6 _ h)
theorem sub8 {a b c d e f g i : Addr × Obj} {l : List (Addr × Obj)} : ∀ p ∈ l, p ∈ a :: b :: c :: d :: e :: f :: g :: i :: l := fun _ h => .tail _ (sub7 _ h)
section
variable {h₀ h' : Heap} {L : Addr} {m : Str → Option Value} {news : List (Addr × Obj)} {s : Shared} {Q : Value → Shared → Prop} {t : Tok} {tk' : Nat}
theorem endF {x y : Int} (hret : RetF x news h₀ L m s Q) (e : y = x) (F : Fr h₀ L h' m) (N : News h₀ L h' news) : Q (.float (hf y) t) { s with heap := h', toks := tk' } := by
  subst e; exact hret t h' tk' F N
theorem endI {x y : Int} (hret : RetI x news h₀ L m s Q) (e : y = x) (F : Fr h₀ L h' m) (N : News h₀ L h' news) : Q (.int y t) { s with heap := h', toks := tk' } := by
  subst e; exact hret t h' tk' F N
theorem endB {x y : Bool} (hret : RetB x news h₀ L m s Q) (e : y = x) (F : Fr h₀ L h' m) (N : News h₀ L h' news) : Q (.bool y) { s with heap := h', toks := tk' } := by
  subst e; exact hret h' tk' F N
theorem endS {x y : Str} (hret : RetS x news h₀ L m s Q) (e : y = x) (F : Fr h₀ L h' m) (N : News h₀ L h' news) : Q (.str y t) { s with heap := h', toks := tk' } := by
  subst e; exact hret t h' tk' F N
theorem endT2 {D : Addr} {c : Nat} {i i' : Int} {x x' : Str} {t1 t2 : Tok} {news' : List (Addr × Obj)} (hret : RetT2 i x news h₀ L m s Q) (e : i' = i ∧ x' = x) (F : Fr h₀ L h' m) (N : News h₀ L h' news')
    (hm : (D, ({ cls := .type "tuple", data := .seq #[.int i' t1, .str x' t2] c } : Obj)) ∈ news') (hs : ∀ p ∈ news, p ∈ news') (hl : AllLt D news) : Q (.ref D) { s with heap := h', toks := tk' } := by
  obtain ⟨rfl, rfl⟩ := e
  exact hret D t1 t2 c h' tk' F (fun p hp => (List.mem_cons.mp hp).elim (fun e => e ▸ N _ hm) fun hp => N p (hs p hp)) hl
theorem endT3 {D : Addr} {c : Nat} {i j k i' j' k' : Int} {t1 t2 t3 : Tok} {news' : List (Addr × Obj)} (hret : RetT3 i j k news h₀ L m s Q) (e : i' = i ∧ j' = j ∧ k' = k) (F : Fr h₀ L h' m) (N : News h₀ L h' news')
    (hm : (D, ({ cls := .type "tuple", data := .seq #[.int i' t1, .int j' t2, .int k' t3] c } : Obj)) ∈ news') (hs : ∀ p ∈ news, p ∈ news') (hl : AllLt D news) : Q (.ref D) { s with heap := h', toks := tk' } := by
  obtain ⟨rfl, rfl, rfl⟩ := e
  exact hret D t1 t2 t3 c h' tk' F (fun p hp => (List.mem_cons.mp hp).elim (fun e => e ▸ N _ hm) fun hp => N p (hs p hp)) hl
theorem endT5 {D : Addr} {c : Nat} {i j k l r i' j' k' l' r' : Int} {t1 t2 t3 t4 t5 : Tok} {news' : List (Addr × Obj)} (hret : RetT5 i j k l r news h₀ L m s Q) (e : i' = i ∧ j' = j ∧ k' = k ∧ l' = l ∧ r' = r) (F : Fr h₀ L h' m) (N : News h₀ L h' news')
    (hm : (D, ({ cls := .type "tuple", data := .seq #[.int i' t1, .int j' t2, .int k' t3, .int l' t4, .int r' t5] c } : Obj)) ∈ news') (hs : ∀ p ∈ news, p ∈ news') (hl : AllLt D news) : Q (.ref D) { s with heap := h', toks := tk' } := by
  obtain ⟨rfl, rfl, rfl, rfl, rfl⟩ := e
  exact hret D t1 t2 t3 t4 t5 c h' tk' F (fun p hp => (List.mem_cons.mp hp).elim (fun e => e ▸ N _ hm) fun hp => N p (hs p hp)) hl
end

section
variable {prog : Program} {w : World} {A : Around} {E : Value → Shared → Prop} {s : Shared} {h₀ : Heap} {L D b : Addr} {m : Str → Option Value} {news news' : List (Addr × Obj)} {its its2 : Array Value} {n n2 : Nat} {l : List Value} {Q : Value → Shared → Prop}
theorem fi_list : fillsInplaceSlot (.type "list") "add" (Operator.Add == .Add) = pure false := by
  unfold fillsInplaceSlot
  show (typeLookup (.type "list") (dunderI "add") >>= fun fi => pure (fi.isSome && !isSeqSlot fi)) = pure false
  rw [F.slot_list_iadd.lookup]
  simp only [pure_bind]
  congr 1
theorem si_list : seqSlot? (.type "list") (dunderI "add") = pure (some (.builtin "list.__iadd__")) := PySem.seqSlot_of F.slot_list_iadd.lookup (by decide +kernel)
theorem iadd_call (hD : s.TypeIs (.ref D) "list") (hb : s.TypeIs (.ref b) "list") (h : wpAny (model prog w) A (call (.builtin "list.__iadd__") [.ref D, .ref b]) Q E s) :
    wpAny (model prog w) A (inplaceOp .Add (.ref D) (.ref b)) Q E s := by
  unfold inplaceOp
  refine wpAny_holding ?_
  refine wpAny_bind (wpAny_typeOf hD (wpAny_bind (wpAny_of_eq fi_list ?_)))
  show wpAny _ A (if false = true then _ else _) Q E s
  rw [if_neg Bool.false_ne_true]
  refine wpAny_bind (wpAny_binaryOp1_none (nm := "add") hD hb noFill_list_add ?_)
  refine wpAny_bind (wpAny_of_eq si_list ?_)
  exact wpAny_bind (wpAny_rule h)
theorem iadd_lists (F : Fr h₀ L s.heap m) (N : News h₀ L s.heap news) (hb : (b, listOf its2 n2) ∈ news) (e : its.toList ++ its2.toList = l) (hne : its2.toList.length ≠ 0)
    (U : Upd D (listOf its n) (listOf l.toArray (n + 1)) news news') (hd : ¬(!its.isEmpty && Builtin.List.listTooLong (its.size + its2.size)) = true) (hz : its.toList.length ≤ sizeLine) (hz2 : its.size + its2.size ≤ sizeLine + 1)
    (h : ∀ h', Fr h₀ L h' m → News h₀ L h' news' → Q (.ref D) { s with heap := h' }) : wpAny (model prog w) A (inplaceOp .Add (.ref D) (.ref b)) Q E s := by
  obtain ⟨pre, post, rfl, rfl, a, c⟩ := U.split
  have z := N (D, listOf its n) (List.mem_append.mpr (.inr (.head _)))
  refine iadd_call ⟨_, z.1, rfl⟩ ⟨_, (N _ hb).1, rfl⟩ (call_meets PySem.F.slot_list_iadd ⟨_, z.1, rfl⟩ PySem.F.entry_list_iadd (PySem.F.args_list_iadd_2 _ _) (PySem.AutoSeq1.list___iadd___list_list_0 D its n b its2 n2 hd (by simpa using hz) hz2) ⟨z.1, (N _ hb).1, h _ (F.change (Heap.SameBut.update ..) z.2.1 z.2.2) (kl_turn _ N a c ?_ ?_)⟩)
  · subst e
    apply Array.toList_inj.mp
    simp
  · subst e
    simp at hne ⊢
    exact hne
end

section
open PySem PySem.W PySem.Spec PySem.Calls PyProof.Rows PyProof.V
section
variable {prog : Program} {w : World} {A : Around} {E : Value → Shared → Prop} {s : Shared} {a b : Int} {t u : Tok} {Q : Value → Shared → Prop}
theorem r_fdiv (hb : 0 < b ∧ b < 1000000) (h : Q (.int (a / b) s.toks) { s with toks := s.toks + 1 }) : wpAny (model prog w) A (binaryOp .FloorDiv (.int a t) (.int b u)) Q E s := by
  rw [← Int.fdiv_eq_ediv_of_nonneg a (show 0 ≤ b by omega)] at h
  exact floordiv_int (by omega) h (Or.inl (PyProof.noPylong_small (by omega)))
theorem r_ne_same (e : a = b) (h : Q (.bool false) s) : wpAny (model prog w) A (compareOp .NotEq (.int a t) (.int b u)) Q E s := by
  subst e
  refine ne_int ?_
  rw [show (a != a) = false by simp]
  exact h
theorem r_ne_ff_same {x y : UInt64} (hx : x = hf a) (hy : y = hf b) (ha : a.natAbs < 2 ^ 50) (e : a = b) (h : Q (.bool false) s) : wpAny (model prog w) A (compareOp .NotEq (.float x t) (.float y u)) Q E s := by
  subst e
  refine r_ne_ff hx hy ha ha ?_
  rw [show (a != a) = false by simp]
  exact h
theorem r_fmod (hb : 0 < b) (h : Q (.int (a % b) s.toks) { s with toks := s.toks + 1 }) : wpAny (model prog w) A (binaryOp .Mod (.int a t) (.int b u)) Q E s := by
  rw [← Int.fmod_eq_emod_of_nonneg a (show 0 ≤ b by omega)] at h
  exact mod_int' (by omega) h
end
/-- a number of the law's: whatever was read, it lies between -1000 and 1000 -/
def CutZ (s : Shared) (v : Value) (s' : Shared) : Prop := ∃ z t tk, v = .int z t ∧ s' = { s with toks := tk } ∧ -1000 < z ∧ z < 1000
theorem cutZ_end {s s₂ : Shared} {z : Int} {t : Tok} {tk : Nat} (hs : s₂ = { s with toks := tk }) (h : -1000 < z ∧ z < 1000) : CutZ s (.int z t) s₂ := ⟨z, t, tk, rfl, hs, h⟩
structure MarkZ : Prop where
theorem cut_num {M : Model} {A : Around} {E : Value → Shared → Prop} {s : Shared} {Q : Value → Shared → Prop} {cm : Sem Value} (h1 : MarkZ → wpAny M A cm (fun v s₂ => CutZ s v s₂) E s)
    (h2 : ∀ z t tk, -1000 < z ∧ z < 1000 → Q (.int z t) { s with toks := tk }) : wpAny M A cm Q E s := by
  refine wpAny_mono (h1 ⟨⟩) (fun v s₂ hv => ?_) fun _ _ h => h
  obtain ⟨z, t, tk, rfl, rfl, hz⟩ := hv
  exact h2 z t tk hz
end

section
open PySem PySem.W PySem.Spec PySem.Calls PyProof.Rows PyProof.V
theorem shaped2 {i : Int} {x : Str} (hx : PyData.strOk x = true) : SeqAt.shaped (.tuple [.int i, .str x]) = true := by
  simp [SeqAt.shaped, PyData.canLay0, PyData.canLayAll0, PyData.depth, PyData.depthAll, hx]
theorem haab_ok : ∀ k : Fin 19, PyData.strOk (haabL.getD k.1 PySem.Str.empty) = true := by decide +kernel
theorem tzol_ok : ∀ k : Fin 20, PyData.strOk (tzolL.getD k.1 PySem.Str.empty) = true := by decide +kernel
theorem haabName_ok (T : Int) : PyData.strOk (haabName T) = true := haab_ok ⟨((T + 348) % 365 / 20).toNat, by omega⟩
theorem tzolName_ok (T : Int) : PyData.strOk (tzolName T) = true := tzol_ok ⟨((T + 19) % 20).toNat, by omega⟩
section
variable {prog : Program} {w : World} {A : Around} {E : Value → Shared → Prop} {s : Shared} {h₀ : Heap} {L D1 D2 : Addr} {m : Str → Option Value} {news : List (Addr × Obj)} {c1 c2 : Nat} {Q : Value → Shared → Prop}
  {i j k l r i' j' k' l' r' : Int} {x x' : Str} {t1 t2 t3 t4 t5 u1 u2 u3 u4 u5 : Tok}
theorem ne_T2 (N : News h₀ L s.heap news) (ha : (D1, ({ cls := .type "tuple", data := .seq #[.int i t1, .str x t2] c1 } : Obj)) ∈ news) (hb : (D2, ({ cls := .type "tuple", data := .seq #[.int i' u1, .str x' u2] c2 } : Obj)) ∈ news)
    (e : i = i' ∧ x = x') (hx : PyData.strOk x = true) (hu : A.units + 64 < cLine) (h : Q (.bool false) s) : wpAny (model prog w) A (compareOp .NotEq (.ref D1) (.ref D2)) Q E s := by
  obtain ⟨rfl, rfl⟩ := e
  refine ne_dataH (da := .tuple [.int i, .str x]) (db := .tuple [.int i, .str x]) (reads_tuple_at (News.get N ha) rfl rfl (.cons (.int _ _) (.cons (.str _ _) .nil))) (reads_tuple_at (News.get N hb) rfl rfl (.cons (.int _ _) (.cons (.str _ _) .nil))) (shaped2 hx) (shaped2 hx) hu ?_
  simpa [PyData.eqv, PyData.eqvAll] using h
theorem eq_T3 (N : News h₀ L s.heap news) (ha : (D1, ({ cls := .type "tuple", data := .seq #[.int i t1, .int j t2, .int k t3] c1 } : Obj)) ∈ news) (hb : (D2, ({ cls := .type "tuple", data := .seq #[.int i' u1, .int j' u2, .int k' u3] c2 } : Obj)) ∈ news)
    (e : i = i' ∧ j = j' ∧ k = k') (hu : A.units + 64 < cLine) (h : Q (.bool true) s) : wpAny (model prog w) A (compareOp .Eq (.ref D1) (.ref D2)) Q E s := by
  obtain ⟨rfl, rfl, rfl⟩ := e
  refine eq_dataH (da := .tuple [.int i, .int j, .int k]) (db := .tuple [.int i, .int j, .int k]) (reads_tuple_at (News.get N ha) rfl rfl (.cons (.int _ _) (.cons (.int _ _) (.cons (.int _ _) .nil)))) (reads_tuple_at (News.get N hb) rfl rfl (.cons (.int _ _) (.cons (.int _ _) (.cons (.int _ _) .nil)))) rfl rfl hu ?_
  simpa [PyData.eqv, PyData.eqvAll] using h
theorem eq_T5 (N : News h₀ L s.heap news) (ha : (D1, ({ cls := .type "tuple", data := .seq #[.int i t1, .int j t2, .int k t3, .int l t4, .int r t5] c1 } : Obj)) ∈ news) (hb : (D2, ({ cls := .type "tuple", data := .seq #[.int i' u1, .int j' u2, .int k' u3, .int l' u4, .int r' u5] c2 } : Obj)) ∈ news)
    (e : i = i' ∧ j = j' ∧ k = k' ∧ l = l' ∧ r = r') (hu : A.units + 64 < cLine) (h : Q (.bool true) s) : wpAny (model prog w) A (compareOp .Eq (.ref D1) (.ref D2)) Q E s := by
  obtain ⟨rfl, rfl, rfl, rfl, rfl⟩ := e
  refine eq_dataH (da := .tuple [.int i, .int j, .int k, .int l, .int r]) (db := .tuple [.int i, .int j, .int k, .int l, .int r]) (reads_tuple_at (News.get N ha) rfl rfl (.cons (.int _ _) (.cons (.int _ _) (.cons (.int _ _) (.cons (.int _ _) (.cons (.int _ _) .nil)))))) (reads_tuple_at (News.get N hb) rfl rfl (.cons (.int _ _) (.cons (.int _ _) (.cons (.int _ _) (.cons (.int _ _) (.cons (.int _ _) .nil)))))) rfl rfl hu ?_
  simpa [PyData.eqv, PyData.eqvAll] using h
theorem ne_T5 (N : News h₀ L s.heap news) (ha : (D1, ({ cls := .type "tuple", data := .seq #[.int i t1, .int j t2, .int k t3, .int l t4, .int r t5] c1 } : Obj)) ∈ news) (hb : (D2, ({ cls := .type "tuple", data := .seq #[.int i' u1, .int j' u2, .int k' u3, .int l' u4, .int r' u5] c2 } : Obj)) ∈ news)
    (e : i = i' ∧ j = j' ∧ k = k' ∧ l = l' ∧ r = r') (hu : A.units + 64 < cLine) (h : Q (.bool false) s) : wpAny (model prog w) A (compareOp .NotEq (.ref D1) (.ref D2)) Q E s := by
  obtain ⟨rfl, rfl, rfl, rfl, rfl⟩ := e
  refine ne_dataH (da := .tuple [.int i, .int j, .int k, .int l, .int r]) (db := .tuple [.int i, .int j, .int k, .int l, .int r]) (reads_tuple_at (News.get N ha) rfl rfl (.cons (.int _ _) (.cons (.int _ _) (.cons (.int _ _) (.cons (.int _ _) (.cons (.int _ _) .nil)))))) (reads_tuple_at (News.get N hb) rfl rfl (.cons (.int _ _) (.cons (.int _ _) (.cons (.int _ _) (.cons (.int _ _) (.cons (.int _ _) .nil)))))) rfl rfl hu ?_
  simpa [PyData.eqv, PyData.eqvAll] using h
end
end

section
open PySem PySem.W PySem.Spec PySem.Calls PyProof.Rows PyProof.V
theorem law_end {cl : Str → Option Addr} {mean : ExcName → Option Value} {args : List WData} {s₁ s' : Shared} {L : Addr} {m : Str → Option Value} (F : Fr s₁.heap L s'.heap m) (hg : s'.gens = #[]) (hos : s'.os = s₁.os) :
    GoodW PySem.Challenge.rw_ba5010_01.row.claim cl mean args s₁ (.ok (.ret (.bool true))) s' := by
  refine goodW_bool F hg (raisesW_false (r := PySem.Challenge.rw_ba5010_01.row.toRowW) (fun ct hct => ?_)) (postW_of (r := PySem.Challenge.rw_ba5010_01.row.toRowW) (X := (true == true)) rfl ?_ rfl) hos
  · have : PySem.Challenge.rw_ba5010_01.row.toRowW.raises = [] := rfl
    rw [this] at hct
    cases hct
  · rw [show PySem.Challenge.rw_ba5010_01.row.post = .eq .res (.lit (.bool true)) from rfl]
    exact w_eq_bool (w_res rfl) w_lit
end

section
open PySem PySem.W PySem.Spec PySem.Calls PyProof.Rows
theorem md_get : typeLookup (.type "method_descriptor") "__get__" = pure (some (.builtin "method_descriptor.__get__")) := by rw [typeLookup_type, builtinLookup_eq_fast]; kernel_rfl
theorem md_set : typeLookup (.type "method_descriptor") "__set__" = pure none := by rw [typeLookup_type, builtinLookup_eq_fast]; kernel_rfl
theorem md_del : typeLookup (.type "method_descriptor") "__delete__" = pure none := by rw [typeLookup_type, builtinLookup_eq_fast]; kernel_rfl
theorem slot_md_get : Slot "method_descriptor" "__get__" "method_descriptor.__get__" :=
  .of (owner := "method_descriptor") (n := "__get__") (by rw [typeLookup_type, builtinLookup_eq_fast]; kernel_rfl) (by decide +kernel) (by decide +kernel) (by decide +kernel)
    (by first | exact .inl (by decide +kernel) | exact .inr (by decide +kernel)) (by rw [isSubtype_type]; kernel_rfl)
theorem entry_md_get : entryFor table "method_descriptor.__get__" = some Builtin.«method_descriptor.__get__» := entryFor_of_tree (by kernel_rfl)
theorem args_md_get (a b c : Value) : argsOk "method_descriptor.__get__" ⟨[a, b, c], []⟩ := by unfold argsOk; kernel_rfl

abbrev boundB (id : String) (self : Value) : Obj := { cls := .type "builtin_function_or_method", data := .fields #[.builtin id, self] }

theorem fmt_owner : (".".intercalate ("str.format".cutAt '.').dropLast) = "str" := by decide +kernel
theorem kind_fmt : builtinKind "str.format" = some Manifest.AttrKind.method := by decide +kernel
section
variable {prog : Program} {w : World} {A : Around} {E : Value → Shared → Prop} {s : Shared} {x : Str} {t u : Tok}
theorem md_get_str {Q : Fin → Shared → Prop} (h : Q (.done (.ret (.ref s.heap.objs.size))) { s with heap := s.heap.push (boundB "str.format" (.str x t)) }) :
    wpAny (model prog w) A (Builtin.«method_descriptor.__get__» ⟨[.builtin "str.format", .str x t, .type "str"], []⟩) Q E s := by
  obtain ⟨hp, g, d, tk, os⟩ := s
  have hT : ∀ s' : Shared, s'.TypeIs (.str x t) "str" := fun _ => rfl
  have f1 : isSubtype (.type "str") (.type "str") = pure true := by rw [isSubtype_type]; kernel_rfl
  unfold Builtin.«method_descriptor.__get__»
  repeat (any_goals (first | assumption | wp_step))
  rw [fmt_owner]
  repeat (any_goals (first | assumption | wp_step))
theorem getattribute_format {Q : Fin → Shared → Prop} (h : Q (.done (.ret (.ref s.heap.objs.size))) { s with heap := s.heap.push (boundB "str.format" (.str x t)) }) :
    wpAny (model prog w) A (Builtin.«object.__getattribute__» ⟨[.str x t, .str (Str.ofString "format") u], []⟩) Q E s := by
  obtain ⟨hp, g, d, tk, os⟩ := s
  have hT : ∀ s' : Shared, s'.TypeIs (.str x t) "str" := fun _ => rfl
  have hM : ∀ s' : Shared, s'.TypeIs (.builtin "str.format") "method_descriptor" := fun s' => F.type_str_format_m
  have f1 := F.slot_str_format_m.lookup
  have f2 := md_get
  have f3 := md_set
  have f4 := md_del
  unfold Builtin.«object.__getattribute__»
  repeat (any_goals (first | assumption | ((with_reducible show wpAny _ _ (typeLookup (Value.type _) _) _ _ _); rw [kind_fmt]; dsimp only) | wp_step))
  refine codeAny_call_builtin slot_md_get.plain entry_md_get (slot_md_get.check _ _ _ _ _ _ _ _ F.type_str_format_m (args_md_get _ _ _) (md_get_str ?_))
  repeat (any_goals (first | assumption | wp_step))
theorem getAttr_format {Q : Value → Shared → Prop} (h : ∀ tk, Q (.ref s.heap.objs.size) { s with heap := s.heap.push (boundB "str.format" (.str x t)), toks := tk }) :
    wpAny (model prog w) A (getAttr (.str x t) (Str.ofString "format") true) Q E s := by
  obtain ⟨hp, g, d, tk, os⟩ := s
  have hT : ∀ s' : Shared, s'.TypeIs (.str x t) "str" := fun _ => rfl
  have f3 := F.slot_str_getattribute.lookup
  have f4 := F.slot_str_getattribute.bind (.str x t)
  have f5 := am_str_getattr_none
  unfold getAttr getAttrBy
  repeat (any_goals (first | assumption | ((with_reducible show wpAny _ _ (call (Value.builtin "object.__getattribute__") _ _) _ _ _); refine wpAny_call (codeAny_call_builtin F.slot_str_getattribute.plain F.entry_object_getattribute (F.slot_str_getattribute.check _ _ _ _ _ _ _ _ (hT _) (F.args_object_getattribute_2 _ _) (getattribute_format ?_)))) | wp_step))
  exact h _
end
end

section
open PySem PySem.W PySem.Spec PySem.Calls PyProof.Rows
open Builtin Builtin.Str
section
variable {prog : Program} {w : World} {A : Around} {E : Value → Shared → Prop} {s : Shared}
theorem field_man {id : String} {a : Array Value} {byName : PySem.Str → Sem Value} {i c : Nat} {v : Value} {num : Numbering} {Q : Value × Numbering → Shared → Prop} (hk : fieldKey [c] = .index i) (hc : (c != 46 && c != 91) = true) (hn : num = .unset ∨ num = .manual) (ha : a[i]? = some v)
    (h : Q (v, .manual) s) : wpAny (model prog w) A (fieldObject id (some a) byName [c] num) Q E s := by
  have hs : ([c] : List Nat).span (fun c => c != 46 && c != 91) = ([c], []) := by
    simp only [List.span, List.span.loop, hc]
    rfl
  rcases hn with e | e <;> subst e <;> unfold fieldObject <;> rw [hs] <;> simp only [hk] <;>
    (first
      | refine wpAny_bind (wpAny_pure ?_)
      | refine wpAny_bind (wpAny_of_eq (a := some i) rfl ?_)) <;>
    (first
      | refine wpAny_bind (wpAny_pure ?_)
      | refine wpAny_bind (wpAny_of_eq (a := (some i, .manual)) rfl ?_)) <;>
    simp only [ha, pure_bind] <;> rw [KPc.range_list] <;> exact wpAny_bind (wpAny_pure (wpAny_pure h))
end
local macro_rules | `(tactic| kfm_turns) => `(tactic| (refine KPc.turn ?_; kpc_if; first
  | kfm_close
  | (kpc_check
     refine wpAny_bind (field_man (by rfl) (by decide) (by first | exact Or.inl rfl | exact Or.inr rfl) (by rfl) ?_)
     refine wpAny_bind (wpAny_holding (wpAny_of_eq (a := _) rfl ?_))
     kpc_if
     refine wpAny_bind (wpAny_pure ?_)
     kfm_val
     refine wpAny_bind (wpAny_of_eq (a := some _) rfl ?_)
     refine wpAny_pure ?_
     refine KFm.after_field (by kpc_g) (by kpc_text) (by kpc_obj) (by kfm_len) (by kpc_obj) (by kfm_cat2) (by kfm_rest) ?_
     intro _ _
     kfm_turns)
  | (kpc_check; kfm_lit; kfm_turns)))
theorem fmt4 (i j : Int) (x y : PySem.Str) (t t1 t2 t3 t4 : Tok) (hi : 0 ≤ i ∧ i < 100) (hj : 0 ≤ j ∧ j < 100) (hx : x.length ≤ 100) (hy : y.length ≤ 100) :
    Meets («str.format» ⟨[.str (PySem.Str.ofString "{0} {1} {2} {3}") t, .int i t1, .str x t2, .int j t3, .str y t4], []⟩) (fun _ R s => ∀ t' k, R (.ok (.ret (.str ((((((PySem.Str.ofString (toString i) ++ PySem.Str.ofString " ") ++ x) ++ PySem.Str.ofString " ") ++ PySem.Str.ofString (toString j)) ++ PySem.Str.ofString " ") ++ y) t'))) { s with toks := k }) := by
  have e : PySem.Str.ofString "{0} {1} {2} {3}" = PySem.Str.mk #[123, 48, 125, 32, 123, 49, 125, 32, 123, 50, 125, 32, 123, 51, 125] := by decide +kernel
  rw [e]
  k_dflt (
    apply KPc.meets_of
    intro _ _ _ _ _ _ _
    unfold Builtin.«str.format»
    refine wpAny_bind (wpAny_of_eq (a := (_, _, _)) rfl ?_)
    refine wpAny_bind ?_
    unfold Builtin.Str.buildString
    refine wpAny_bind ?_
    rw [KPc.range_list]
    refine KFm.start ?_
    intro _ _
    kfm_turns)
end

section
open PySem PySem.W PySem.Spec PySem.Calls PyProof.Rows
theorem fmtform {e : PySem.Expr} {p pos : Pos} {env : Env} : methodCallForm 1 (backTo pos (starEach [.Starred e p] env)) [] = false := rfl
section
variable {prog : Program} {w : World} {A : Around} {E : Value → Shared → Prop} {s : Shared} {h₀ : Heap} {L : Addr} {m : Str → Option Value} {news : List (Addr × Obj)} {env : Env}
def StandsB (b : Addr) (self : Value) (h : Heap) : Prop := h.get? b = some (boundB "str.format" self)
theorem keeper_bound {M : Model} {b : Addr} {self : Value} {h : Heap} (ho : StandsB b self h) : ∃ k, (k = Keeper.frame ∨ k = Keeper.machine ∨ k = Keeper.boundFrame) ∧ Looks M h (keeperOf (.ref b)) k := by
  refine ⟨.machine, .inr (.inl rfl), fun A Q E s k q => ?_⟩
  unfold keeperOf
  refine wpAny_bind (wpAny_load (k _ _ ho) ?_)
  exact wpAny_pure q
theorem eval_format_star {f : Str} {k : Nat} {e : PySem.Expr} {cp apos sp pos : Pos} {Q : Value → Shared → Prop} (F : Fr h₀ L s.heap m) (N : News h₀ L s.heap news)
    (h : ∀ b t h' tk, Fr h₀ L h' m → News h₀ L h' ((b, boundB "str.format" (.str f t)) :: news) → (∀ p ∈ news, p.1 < b) →
      wpAny (model prog w) A (eval e env) (fun v s₁ => StarOf (model prog w) A E v (fun vs s₂ => StandsB b (.str f t) s₂.heap ∧ wpAny (model prog w) A (call (.ref b) vs) Q E s₂) s₁) E { s with heap := h', toks := tk }) :
    wpAny (model prog w) A (eval (.Call (.Attribute (.Constant (.str f) k cp) (Str.ofString "format") apos) [.Starred e sp] [] pos) env) Q E s := by
  have he : eval (.Call (.Attribute (.Constant (.str f) k cp) (Str.ofString "format") apos) [.Starred e sp] [] pos) env = (do
      let ov ← mkText f
      standAt apos.atName
      methodCall (.Constant (.str f) k cp) (Str.ofString "format") apos pos env ov 1 (backTo pos (starEach [.Starred e sp] env)) []) := by rfl
  rw [he]
  refine wpAny_bind (wpAny_mkText ?_)
  refine wpAny_bind (wpAny_standAt ?_)
  unfold methodCall
  rw [fmtform]
  refine wpAny_bind (wpAny_holding ?_)
  unfold calleeOf
  rw [if_neg Bool.false_ne_true]
  refine wpAny_bind (getAttr_format fun tk => ?_)
  refine wpAny_pure ?_
  refine wpAny_bind ?_
  unfold methodCallPos
  simp only [Bool.not_false, Bool.true_or, if_true]
  refine wpAny_pure ?_
  refine ks_call (P := StandsB s.heap.objs.size (.str f s.toks)) rfl (fun h' hp => keeper_bound hp) (ks_lone ?_)
  exact h _ _ _ _ (F.push _) (News.push F N _) fun p hp => Heap.lt_size (N p hp).1

theorem check_fmt {f x y : Str} {t t1 t2 t3 t4 : Tok} {i j : Int} : checkBoundCall "str.format" ⟨[.str f t, .int i t1, .str x t2, .int j t3, .str y t4], []⟩ = pure () := by first | kernel_rfl | rfl
theorem call_fmt {b : Addr} {x y : Str} {t t1 t2 t3 t4 : Tok} {i j : Int} {Q : Value → Shared → Prop} (N : News h₀ L s.heap news) (hb : (b, boundB "str.format" (.str (Str.ofString "{0} {1} {2} {3}") t)) ∈ news)
    (hi : 0 ≤ i ∧ i < 100) (hj : 0 ≤ j ∧ j < 100) (hx : x.length ≤ 100) (hy : y.length ≤ 100)
    (h : ∀ t' k, Q (.str ((((((Str.ofString (toString i) ++ Str.ofString " ") ++ x) ++ Str.ofString " ") ++ Str.ofString (toString j)) ++ Str.ofString " ") ++ y) t') { s with toks := k }) :
    wpAny (model prog w) A (call (.ref b) [.int i t1, .str x t2, .int j t3, .str y t4]) Q E s := by
  refine wpAny_call (codeAny_of_tree ?_)
  show wpAny _ A.in1 (callAny (.ref b) ⟨[.int i t1, .str x t2, .int j t3, .str y t4], []⟩) _ _ s
  simp only [callAny]
  refine wpAny_bind (wpAny_load (News.get N hb) ?_)
  simp only [boundB, show (Value.type "builtin_function_or_method" == Value.type "method" || Value.type "builtin_function_or_method" == Value.type "builtin_function_or_method" || Value.type "builtin_function_or_method" == Value.type "method-wrapper") = true by decide, if_true]
  show wpAny _ A.in1 (if (Value.type "builtin_function_or_method" != Value.type "method") = true then (do checkBoundCall "str.format" ⟨[.str (Str.ofString "{0} {1} {2} {3}") t, .int i t1, .str x t2, .int j t3, .str y t4], []⟩; (do let r ← again (Code.builtin "str.format" ⟨[.str (Str.ofString "{0} {1} {2} {3}") t, .int i t1, .str x t2, .int j t3, .str y t4], []⟩); pure r)) else _) _ _ s
  rw [if_pos (by decide)]
  refine wpAny_bind (wpAny_of_eq (a := ()) check_fmt ?_)
  refine wpAny_bind (wpAny_pure (wpAny_pure ?_))
  refine ⟨Code.quiet_builtin _ (by decide +kernel), codeAny_builtin F.entry_str_format_m ?_⟩
  rw [Around.under_plainId F.slot_str_format_m.plain _]
  exact fmt4 i j x y t t1 t2 t3 t4 hi hj hx hy prog w A (wants Q E) s h
end
end

local macro_rules | `(tactic| walk_at "binaryOp Add float int") => `(tactic| (refine' r_add_fi ?qx ?qa ?qn ?_; (case qx => first | (with_reducible exact rfl) | exact lit_mayan | exact lit_greg | exact lit_half); (case qa => omega); (case qn => omega); (try dsimp only)))
local macro_rules | `(tactic| walk_at "binaryOp Add int float") => `(tactic| (refine' r_add_if ?qx ?qa ?qn ?_; (case qx => first | (with_reducible exact rfl) | exact lit_mayan | exact lit_greg | exact lit_half); (case qa => omega); (case qn => omega); (try dsimp only)))
local macro_rules | `(tactic| walk_at "binaryOp Sub float int") => `(tactic| (refine' r_sub_fi ?qx ?qa ?qn ?_; (case qx => first | (with_reducible exact rfl) | exact lit_mayan | exact lit_greg | exact lit_half); (case qa => omega); (case qn => omega); (try dsimp only)))
local macro_rules | `(tactic| walk_at "binaryOp Sub float float") => `(tactic| (refine' r_sub_ff ?qx ?qy ?qa ?qb ?_; (case qx => first | (with_reducible exact rfl) | exact lit_mayan | exact lit_greg | exact lit_half); (case qy => first | (with_reducible exact rfl) | exact lit_mayan | exact lit_greg | exact lit_half); (case qa => omega); (case qb => omega); (try dsimp only)))
local macro_rules | `(tactic| walk_at "binaryOp Add float float") => `(tactic| (refine' r_add_ff ?qx ?qy ?qa ?qb ?_; (case qx => first | (with_reducible exact rfl) | exact lit_mayan | exact lit_greg | exact lit_half); (case qy => first | (with_reducible exact rfl) | exact lit_mayan | exact lit_greg | exact lit_half); (case qa => omega); (case qb => omega); (try dsimp only)))
local macro_rules | `(tactic| walk_at "binaryOp Mult int float") => `(tactic| (refine' r_mul_if ?qx ?qa ?qn ?qm ?qp ?_; (case qx => first | (with_reducible exact rfl) | exact lit_mayan | exact lit_greg | exact lit_half); (case qa => omega); (case qn => omega); (case qm => omega); (case qp => omega); (try dsimp only)))
local macro_rules | `(tactic| walk_at "binaryOp Mult float int") => `(tactic| (refine' r_mul_fi ?qx ?qa ?qn ?qm ?qp ?_; (case qx => first | (with_reducible exact rfl) | exact lit_mayan | exact lit_greg | exact lit_half); (case qa => omega); (case qn => omega); (case qm => omega); (case qp => omega); (try dsimp only)))
local macro_rules | `(tactic| walk_at "binaryOp Mod float int") => `(tactic| (refine' r_mod_fi ?qx ?qa ?qn ?qm ?_; (case qx => first | (with_reducible exact rfl) | exact lit_mayan | exact lit_greg | exact lit_half); (case qa => omega); (case qn => omega); (case qm => omega); (try dsimp only)))
local macro_rules | `(tactic| walk_at "binaryOp Div float int") => `(tactic| (refine' r_div_fi ?qx ?qa ?qn ?qm ?_; (case qx => first | (with_reducible exact rfl) | exact lit_mayan | exact lit_greg | exact lit_half); (case qa => omega); (case qn => omega); (case qm => omega); intro qf hqf; (try dsimp only)))
local macro_rules | `(tactic| walk_at "binaryOp Div int int") => `(tactic| (refine' r_div_ii ?qa ?qn ?qm ?_; (case qa => omega); (case qn => omega); (case qm => omega); intro hqf; (try dsimp only)))
local macro_rules | `(tactic| walk_at "call builtin:math.floor") => `(tactic| ((with_reducible show wpAny _ _ (call _ [Value.float _ _]) _ _ _); first | (refine' r_floor rfl ?qx ?_; (case qx => with_reducible assumption); (try dsimp only)) | (refine' r_floor_hf rfl ?qx ?qa ?_; (case qx => with_reducible exact rfl); (case qa => omega); (try dsimp only))))
local macro_rules | `(tactic| walk_at "call builtin:math.trunc") => `(tactic| ((with_reducible show wpAny _ _ (call _ [Value.float _ _]) _ _ _); first | (refine' r_trunc rfl ?qx ?qa ?_; (case qx => with_reducible assumption); (case qa => omega); (try dsimp only)) | (refine' r_trunc_hf rfl ?qx ?qa ?qb ?_; (case qx => with_reducible exact rfl); (case qa => omega); (case qb => omega); (try dsimp only))))
local macro_rules | `(tactic| walk_at "call type:int") => `(tactic| ((with_reducible show wpAny _ _ (call _ [Value.float _ _]) _ _ _); refine' r_int_hf rfl ?qx ?qa ?qb ?_; (case qx => with_reducible exact rfl); (case qa => omega); (case qb => omega); (try dsimp only)))
local macro_rules | `(tactic| walk_at "compareOp Lt float int") => `(tactic| (refine' r_lt_fi ?qx ?qa ?_; (case qx => with_reducible exact rfl); (case qa => omega); (try dsimp only)))
local macro_rules | `(tactic| walk_at "compareOp NotEq float float") => `(tactic| (refine' r_ne_ff ?qx ?qy ?qa ?qb ?_; (case qx => with_reducible exact rfl); (case qy => with_reducible exact rfl); (case qa => omega); (case qb => omega); (try dsimp only)))
local macro_rules | `(tactic| walk_at "eval Call") => `(tactic| ((with_reducible show wpAny _ _ (eval (Expr.Call (Expr.Name _ _) _ [] _) _) _ _ _); k_dflt (refine Call_ ?_)))
local macro_rules | `(tactic| walk_at "isTrue") => `(tactic| ((with_reducible show wpAny _ _ (isTrue (Expr.Call (Expr.Name _ _) _ [] _) _) _ _ _); k_dflt (refine isTrue_plain ?_)))
local macro_rules | `(tactic| walk_at "isTrue Call") => `(tactic| ((with_reducible show wpAny _ _ (isTrue (Expr.Call (Expr.Name _ _) _ [] _) _) _ _ _); k_dflt (refine isTrue_plain ?_)))
local macro_rules | `(tactic| walk_at "binaryOp Add float int") => `(tactic| ((with_reducible show wpAny _ _ (binaryOp _ (Value.float (rf _ _) _) (Value.int _ _)) _ _ _); refine' r_add_rf ?qn ?_; (case qn => omega); (try dsimp only)))
local macro_rules | `(tactic| walk_at "binaryOp Add float int") => `(tactic| ((with_reducible show wpAny _ _ (binaryOp _ (Value.float (Float64.add (rf _ _) _) _) (Value.int _ _)) _ _ _); refine' r_add_rf2 ?qn ?_; (case qn => omega); (try dsimp only)))
local macro_rules | `(tactic| walk_at "call builtin:math.floor") => `(tactic| ((with_reducible show wpAny _ _ (call _ [Value.float (Float64.add (Float64.add (rf _ _) _) _) _]) _ _ _); refine' r_floor_month rfl ?qa ?qb ?qc ?_; (case qa => omega); (case qb => omega); (case qc => omega); (try dsimp only)))
local macro_rules | `(tactic| walk_at "inplaceOp Add ref ref") => `(tactic| (k_here; (with_reducible show wpAny _ _ (inplaceOp _ (Value.ref _) (Value.ref _)) _ _ _); k_dflt (refine' iadd_lists ?iF ?iN ?ib ?ie ?ine ?iU ?id ?iz ?iy ?_; (case iF => k_asm); (case iN => k_asm); (case ib => k_mem); (case iU => k_upd); (case ie => kl_lit); (case ine => kl_some); (case id => kl_no); (case iz => kl_room); (case iy => kl_room)); kl_rest))

theorem to_jd_mayan_tells (w mean mg mb) (news) (a b c d e : Int) (ta tb tc td te : Tok) (pre0 : -1000 < a ∧ a < 1100 ∧ -1000 < b ∧ b < 1100 ∧ -1000 < c ∧ c < 1100 ∧ -1000 < d ∧ d < 1100 ∧ -1000 < e ∧ e < 1100) :
    Tells w mean mg mb 87 1 8 [.int a ta, .int b tb, .int c tc, .int d td, .int e te] news (RetF (2 * (144000 * a + 7200 * b + 360 * c + 20 * d + e) + 1168565) news) := by
  unfold Tells
  k_fill
  intros
  rename_i hret
  refine wpAny_call ?_
  k_dflt cell_enter
  k_steps
  all_goals (refine endF hret ?_ (by k_asm) (by k_asm); omega)

theorem from_jd_mayan_tells (w mean mg mb) (news) (T : Int) (t : Tok) (pre0 : 0 ≤ T ∧ T < 300000000) :
    Tells w mean mg mb 94 1 8 [.float (hf (2 * T + 1168565)) t] news (RetT5 (T / 144000) (T % 144000 / 7200) (T % 7200 / 360) (T % 360 / 20) (T % 20) news) := by
  unfold Tells
  k_fill
  intros
  rename_i hret
  refine wpAny_call ?_
  k_dflt cell_enter
  k_steps
  all_goals (refine' endT5 hret ?e1 ?e2 ?e3 ?e4 ?e5 ?e6; (case e2 => k_asm); (case e3 => k_asm); (case e4 => k_mem); (case e5 => exact sub1); (case e6 => kcu_lt); (case e1 => refine ⟨?_, ?_, ?_, ?_, ?_⟩ <;> omega))

theorem isleap_tells (w mean mg mb) (news) (y : Int) (t : Tok) :
    Tells w mean mg mb 57 1 8 [.int y t] news (RetB (decide (leapI y = 1)) news) := by
  unfold Tells
  k_fill
  intros
  rename_i hret
  refine wpAny_call ?_
  k_dflt cell_enter
  k_steps
  all_goals (refine endB hret ?_ (by k_asm) (by k_asm))
  all_goals first | exact leap_a (by assumption) | exact leap_b (by assumption) (by assumption) | exact leap_c (by assumption) (by assumption)
local macro_rules | `(tactic| walk_at "call ref") => `(tactic| ((with_reducible show wpAny _ _ (call (Value.ref _) _) _ _ _); k_dflt ((show wpAny _ _ (call (Value.ref 57) [Value.int _ _]) _ _ _); (refine' Tells.use ?k1 ?k2 ?k3 ?k4 ?k5 ?kK (isleap_tells _ _ _ _ _ _ _) ?kd ?ku ?_); (case k1 => k_asm); (case k2 => k_asm); (case k3 => k_asm); (case k4 => k_asm); (case k5 => k_asm); (case kK => first | exact rfl | assumption); (case kd => ktr_room); (case ku => ktr_units); intro h9 tk9 F9 N9); (try dsimp only); (try k_fold)))
local macro_rules | `(tactic| walk_at "compareOp In int ref") => `(tactic| (k_here; k_dflt (refine' r_in30 ?k1 ?_; (case k1 => exact Fr.tup (by k_asm) (tupK (by k_asm) (by k_is)))); (try dsimp only)))
theorem legal_tells (w mean mg mb) (news) (y mo d : Int) (t t2 t3 : Tok) (pre0 : 1 ≤ mo ∧ mo ≤ 12 ∧ 1 ≤ d ∧ d ≤ 31 ∧ (mo = 2 → d ≤ 28 + leapI y) ∧ (mo = 4 ∨ mo = 6 ∨ mo = 9 ∨ mo = 11 → d ≤ 30)) :
    Tells w mean mg mb 64 2 16 [.int y t, .int mo t2, .int d t3] news (RetB true news) := by
  unfold Tells
  k_fill
  intros
  rename_i hret
  have hleap := leapI_01 y
  refine wpAny_call ?_
  k_dflt cell_enter
  k_steps
  all_goals (refine endB hret ?_ (by k_asm) (by k_asm); rfl)

local macro_rules | `(tactic| walk_at "call ref") => `(tactic| ((with_reducible show wpAny _ _ (call (Value.ref _) _) _ _ _); k_dflt ((show wpAny _ _ (call (Value.ref 57) [Value.int _ _]) _ _ _); (refine' Tells.use ?k1 ?k2 ?k3 ?k4 ?k5 ?kK (isleap_tells _ _ _ _ _ _ _) ?kd ?ku ?_); (case k1 => k_asm); (case k2 => k_asm); (case k3 => k_asm); (case k4 => k_asm); (case k5 => k_asm); (case kK => first | exact rfl | assumption); (case kd => first | exact Nat.le_of_ble_eq_true rfl | ktr_room); (case ku => first | exact Nat.le_of_ble_eq_true rfl | ktr_units); intro h9 tk9 F9 N9); (try dsimp only); (try k_fold)))
local macro_rules | `(tactic| walk_at "call ref") => `(tactic| ((with_reducible show wpAny _ _ (call (Value.ref _) _) _ _ _); k_dflt ((show wpAny _ _ (call (Value.ref 64) [Value.int _ _, Value.int _ _, Value.int _ _]) _ _ _); (refine' Tells.use ?k1 ?k2 ?k3 ?k4 ?k5 ?kK (legal_tells _ _ _ _ _ _ _ _ _ _ _ ?kp) ?kd ?ku ?_); (case k1 => k_asm); (case k2 => k_asm); (case k3 => k_asm); (case k4 => k_asm); (case k5 => k_asm); (case kK => first | exact rfl | assumption); (case kd => first | exact Nat.le_of_ble_eq_true rfl | ktr_room); (case ku => first | exact Nat.le_of_ble_eq_true rfl | ktr_units); (case kp => omega); intro h9 tk9 F9 N9); (try dsimp only); (try k_fold)))

theorem to_jd_greg_tells (w mean mg mb) (news) (y mo d : Int) (t t2 t3 : Tok) (pre0 : -1000000 < y ∧ y < 1000000 ∧ 1 ≤ mo ∧ mo ≤ 12 ∧ 1 ≤ d ∧ d ≤ 31 ∧ (mo = 2 → d ≤ 28 + leapI y) ∧ (mo = 4 ∨ mo = 6 ∨ mo = 9 ∨ mo = 11 → d ≤ 30)) :
    Tells w mean mg mb 71 3 24 [.int y t, .int mo t2, .int d t3] news (RetF (2 * dayNo y mo d + 3442849) news) := by
  unfold Tells
  k_fill
  intros
  rename_i hret
  have hleap := leapI_01 y
  refine wpAny_call ?_
  k_dflt cell_enter
  k_steps
  all_goals (refine endF hret ?_ (by k_asm) (by k_asm))
  all_goals (unfold dayNo adjI jan1; split <;> omega)

structure IsN (n : Int) : Prop where
theorem isleap_n (w mean mg mb) (news) {n : Int} (mn0 : IsN n) (y : Int) (t : Tok) (hy : y = gYear n) : Tells w mean mg mb 57 1 8 [.int y t] news (RetB (decide (leapI (gYear n) = 1)) news) := by
  subst hy; exact isleap_tells w mean mg mb news _ t
def RetFa (n : Int) (news : List (Addr × Obj)) (h₀ : Heap) (L : Addr) (m : Str → Option Value) (s : Shared) (Q : Value → Shared → Prop) : Prop :=
  (gYd n = n - jan1 (gYear n) ∧ 0 ≤ gYd n ∧ gYd n ≤ 364 + leapI (gYear n) ∧ 0 ≤ leapI (gYear n) ∧ leapI (gYear n) ≤ 1) → RetF (2 * (jan1 (gYear n) + 1) + 3442849) news h₀ L m s Q
theorem to_jd_greg_a (w mean mg mb) (news) {n : Int} (mn0 : IsN n) (y : Int) (t t2 t3 : Tok) (hb : -2000000 ≤ n ∧ n ≤ 300000000) (hy : y = gYear n) :
    Tells w mean mg mb 71 3 24 [.int y t, .int 1 t2, .int 1 t3] news (RetFa n news) := by
  subst hy
  intro dp un gd cn cs a ccd cl outer A₀ base h₀ L m s Q E B F X N T hk hd hu hR
  have hY := gYear_bound hb
  have h := to_jd_greg_tells w mean mg mb news (gYear n) 1 1 t t2 t3 (by have := leapI_01 (gYear n); omega)
  refine h dp un gd cn cs a ccd cl outer A₀ base h₀ L m s Q E B F X N T hk hd hu ?_
  have e : dayNo (gYear n) 1 1 = jan1 (gYear n) + 1 := by unfold dayNo adjI; omega
  rw [e]
  exact hR ⟨rfl, (gYear_fact n).1, (gYear_fact n).2, (leapI_01 _).1, (leapI_01 _).2⟩
def RetFb (n : Int) (news : List (Addr × Obj)) (h₀ : Heap) (L : Addr) (m : Str → Option Value) (s : Shared) (Q : Value → Shared → Prop) : Prop :=
  (gDay n = n + 1 - dayNo (gYear n) (gMonth n) 1 + 1 ∧ 1 ≤ gDay n ∧ gDay n ≤ 31 ∧ 1 ≤ gMonth n ∧ gMonth n ≤ 12) → RetF (2 * dayNo (gYear n) (gMonth n) 1 + 3442849) news h₀ L m s Q
theorem to_jd_greg_b (w mean mg mb) (news) {n : Int} (mn0 : IsN n) (y mo : Int) (t t2 t3 : Tok) (hb : -2000000 ≤ n ∧ n ≤ 300000000) (hy : y = gYear n) (hm : mo = gMonth n) :
    Tells w mean mg mb 71 3 24 [.int y t, .int mo t2, .int 1 t3] news (RetFb n news) := by
  subst hy; subst hm
  intro dp un gd cn cs a ccd cl outer A₀ base h₀ L m s Q E B F X N T hk hd hu hR
  have hY := gYear_bound hb
  have hG := greg_fact n
  have h := to_jd_greg_tells w mean mg mb news (gYear n) (gMonth n) 1 t t2 t3 (by have := leapI_01 (gYear n); omega)
  refine h dp un gd cn cs a ccd cl outer A₀ base h₀ L m s Q E B F X N T hk hd hu ?_
  exact hR ⟨rfl, hG.2.2.1, hG.2.2.2.1, hG.1, hG.2.1⟩

section
variable {prog : Program} {w : World} {A : Around} {E : Value → Shared → Prop} {s : Shared} {x y : UInt64} {a b k z n : Int} {t u : Tok} {Q : Value → Shared → Prop}
theorem n_floor (z : Int) (hA : A.handled = none) (hq : QuotI x a k) (he : a / k = z) (h : Q (.int z s.toks) { s with toks := s.toks + 1 }) : wpAny (model prog w) A (call (.builtin "math.floor") [.float x t]) Q E s := by
  subst he; exact r_floor hA hq h
theorem n_floor_hf (z : Int) (hA : A.handled = none) (hx : x = hf a) (ha : a.natAbs < 2 ^ 32) (he : a / 2 = z) (h : Q (.int z s.toks) { s with toks := s.toks + 1 }) : wpAny (model prog w) A (call (.builtin "math.floor") [.float x t]) Q E s := by
  subst he; exact r_floor_hf hA hx ha h
theorem n_sub_ff (z : Int) (hx : x = hf a) (hy : y = hf b) (ha : a.natAbs < 2 ^ 50) (hb : b.natAbs < 2 ^ 50) (he : a - b = z) (h : Q (.float (hf z) s.toks) { s with toks := s.toks + 1 }) : wpAny (model prog w) A (binaryOp .Sub (.float x t) (.float y u)) Q E s := by
  subst he; exact r_sub_ff hx hy ha hb h
theorem n_mod_fi (z : Int) (hx : x = hf a) (ha : a.natAbs < 2 ^ 50) (hn : 0 < k) (hn2 : k < 2 ^ 50) (he : a % (2 * k) = z) (h : Q (.float (hf z) s.toks) { s with toks := s.toks + 1 }) : wpAny (model prog w) A (binaryOp .Mod (.float x t) (.int k u)) Q E s := by
  subst he; exact r_mod_fi hx ha hn hn2 h
end
/-- the names of what the function reckons on its way -/
theorem n_qc {n : Int} (mn0 : IsN n) {a k : Int} (h : a = 2 * n ∧ k = 2 * 146097) : a / k = gqc n := by obtain ⟨rfl, rfl⟩ := h; unfold gqc; omega
theorem n_c {n : Int} (mn0 : IsN n) {a k : Int} (h : a = 2 * (n % 146097) ∧ k = 2 * 36524) : a / k = gc n := by obtain ⟨rfl, rfl⟩ := h; unfold gc; omega
theorem n_q {n : Int} (mn0 : IsN n) {a k : Int} (h : a = 2 * (n % 146097 % 36524) ∧ k = 2 * 1461) : a / k = gq n := by obtain ⟨rfl, rfl⟩ := h; unfold gq; omega
theorem n_y {n : Int} (mn0 : IsN n) {a k : Int} (h : a = 2 * (n % 146097 % 36524 % 1461) ∧ k = 2 * 365) : a / k = gy n := by obtain ⟨rfl, rfl⟩ := h; unfold gy; omega
theorem n_m {n : Int} (mn0 : IsN n) {a k : Int} (la : Int) (h : a = (2 * gYd n + 2 * la) * 12 + 2 * 373 ∧ k = 2 * 367) (hla : la = gLa n) : a / k = gMonth n := by obtain ⟨rfl, rfl⟩ := h; unfold gMonth; omega
theorem n_r1 {n : Int} (mn0 : IsN n) {a k : Int} (h : a = 2 * n ∧ k = 146097) : a % (2 * k) = 2 * (n % 146097) := by obtain ⟨rfl, rfl⟩ := h; omega
theorem n_r2 {n : Int} (mn0 : IsN n) {a k : Int} (h : a = 2 * (n % 146097) ∧ k = 36524) : a % (2 * k) = 2 * (n % 146097 % 36524) := by obtain ⟨rfl, rfl⟩ := h; omega
theorem n_r3 {n : Int} (mn0 : IsN n) {a k : Int} (h : a = 2 * (n % 146097 % 36524) ∧ k = 1461) : a % (2 * k) = 2 * (n % 146097 % 36524 % 1461) := by obtain ⟨rfl, rfl⟩ := h; omega
theorem n_w {n : Int} (mn0 : IsN n) {a : Int} (h : a = 2 * n + 3442851 - 1) : a / 2 = n + 1721425 := by subst h; omega
theorem n_de {n : Int} (mn0 : IsN n) {a b : Int} (h : a = 2 * (n + 1721425) + 1 ∧ b = 3442851) : a - b = 2 * n := by obtain ⟨rfl, rfl⟩ := h; omega
theorem n_yd {n : Int} (mn0 : IsN n) {a b : Int} (h : a = 2 * (n + 1721425) + 1 ∧ b = 2 * (jan1 (gYear n) + 1) + 3442849) : a - b = 2 * gYd n := by obtain ⟨rfl, rfl⟩ := h; unfold gYd; omega
theorem n_la0 {n : Int} (h : 2 * gYd n < 2 * (58 + if decide (leapI (gYear n) = 1) = true then 1 else 0)) : (0 : Int) = gLa n := by
  have hl := leapI_01 (gYear n)
  unfold gLa
  by_cases e : leapI (gYear n) = 1
  · rw [if_pos (decide_eq_true e)] at h; rw [if_pos (by omega)]
  · rw [if_neg (by simpa using e)] at h; rw [if_pos (by omega)]
theorem n_la1 {n : Int} (h : ¬ 2 * gYd n < 2 * (58 + if decide (leapI (gYear n) = 1) = true then 1 else 0)) (e : leapI (gYear n) = 1) : (1 : Int) = gLa n := by
  unfold gLa
  rw [if_pos (decide_eq_true e)] at h; rw [if_neg (by omega), if_pos e]
theorem n_la2 {n : Int} (h : ¬ 2 * gYd n < 2 * (58 + if decide (leapI (gYear n) = 1) = true then 1 else 0)) (e : ¬ leapI (gYear n) = 1) : (2 : Int) = gLa n := by
  have hl := leapI_01 (gYear n)
  unfold gLa
  rw [if_neg (by simpa using e)] at h; rw [if_neg (by omega), if_neg e]
local macro_rules | `(tactic| walk_at "call builtin:math.floor") => `(tactic| ((with_reducible show wpAny _ _ (call _ [Value.float _ _]) _ _ _); first
  | (refine' n_floor _ rfl ?qx ?qe ?_; (case qx => with_reducible assumption); (case qe => first | exact n_qc (by with_reducible assumption) ⟨rfl, rfl⟩ | exact n_c (by with_reducible assumption) ⟨rfl, rfl⟩ | exact n_q (by with_reducible assumption) ⟨rfl, rfl⟩ | exact n_y (by with_reducible assumption) ⟨rfl, rfl⟩ | exact n_m (by with_reducible assumption) _ ⟨rfl, rfl⟩ (by first | exact n_la0 (by assumption) | exact n_la1 (by assumption) (by assumption) | exact n_la2 (by assumption) (by assumption))); (try dsimp only))
  | (refine' n_floor_hf _ rfl ?qx ?qa ?qe ?_; (case qx => with_reducible exact rfl); (case qa => omega); (case qe => exact n_w (by with_reducible assumption) rfl); (try dsimp only))))
local macro_rules | `(tactic| walk_at "binaryOp Sub float float") => `(tactic| (refine' n_sub_ff _ ?qx ?qy ?qa ?qb ?qe ?_; (case qx => first | (with_reducible exact rfl) | exact lit_mayan | exact lit_greg | exact lit_half); (case qy => first | (with_reducible exact rfl) | exact lit_mayan | exact lit_greg | exact lit_half); (case qa => omega); (case qb => omega); (case qe => first | exact n_de (by with_reducible assumption) ⟨rfl, rfl⟩ | exact n_yd (by with_reducible assumption) ⟨rfl, rfl⟩); (try dsimp only)))
local macro_rules | `(tactic| walk_at "binaryOp Mod float int") => `(tactic| (refine' n_mod_fi _ ?qx ?qa ?qn ?qm ?qe ?_; (case qx => with_reducible exact rfl); (case qa => omega); (case qn => omega); (case qm => omega); (case qe => first | exact n_r1 (by with_reducible assumption) ⟨rfl, rfl⟩ | exact n_r2 (by with_reducible assumption) ⟨rfl, rfl⟩ | exact n_r3 (by with_reducible assumption) ⟨rfl, rfl⟩); (try dsimp only)))
local macro_rules | `(tactic| walk_at "call ref") => `(tactic| ((with_reducible show wpAny _ _ (call (Value.ref _) _) _ _ _); k_dflt ((show wpAny _ _ (call (Value.ref 57) [Value.int _ _]) _ _ _); (refine' Tells.use ?k1 ?k2 ?k3 ?k4 ?k5 ?kK (isleap_n _ _ _ _ _ ?kn _ _ ?kp) ?kd ?ku ?_); (case k1 => k_asm); (case k2 => k_asm); (case k3 => k_asm); (case k4 => k_asm); (case k5 => k_asm); (case kK => first | exact rfl | assumption); (case kd => first | exact Nat.le_of_ble_eq_true rfl | ktr_room); (case ku => first | exact Nat.le_of_ble_eq_true rfl | ktr_units); (case kn => assumption); (case kp => (unfold gYear; split <;> omega)); intro h9 tk9 F9 N9); (try dsimp only); (try k_fold)))
local macro_rules | `(tactic| walk_at "call ref") => `(tactic| ((with_reducible show wpAny _ _ (call (Value.ref _) _) _ _ _); k_dflt ((show wpAny _ _ (call (Value.ref 71) [Value.int _ _, Value.int _ _, Value.int 1 _]) _ _ _); (refine' Tells.use ?k1 ?k2 ?k3 ?k4 ?k5 ?kK (to_jd_greg_b _ _ _ _ _ ?kn _ _ _ _ _ ?kb ?kp ?kq) ?kd ?ku ?_); (case k1 => k_asm); (case k2 => k_asm); (case k3 => k_asm); (case k4 => k_asm); (case k5 => k_asm); (case kK => first | exact rfl | assumption); (case kd => first | exact Nat.le_of_ble_eq_true rfl | ktr_room); (case ku => first | exact Nat.le_of_ble_eq_true rfl | ktr_units); (case kn => assumption); (case kb => omega); (case kp => (unfold gYear; split <;> omega)); (case kq => exact rfl); intro hmd t9 h9 tk9 F9 N9); (try dsimp only); (try k_fold)))
local macro_rules | `(tactic| walk_at "call ref") => `(tactic| ((with_reducible show wpAny _ _ (call (Value.ref _) _) _ _ _); k_dflt ((show wpAny _ _ (call (Value.ref 71) [Value.int _ _, Value.int 1 _, Value.int 1 _]) _ _ _); (refine' Tells.use ?k1 ?k2 ?k3 ?k4 ?k5 ?kK (to_jd_greg_a _ _ _ _ _ ?kn _ _ _ _ ?kb ?kp) ?kd ?ku ?_); (case k1 => k_asm); (case k2 => k_asm); (case k3 => k_asm); (case k4 => k_asm); (case k5 => k_asm); (case kK => first | exact rfl | assumption); (case kd => first | exact Nat.le_of_ble_eq_true rfl | ktr_room); (case ku => first | exact Nat.le_of_ble_eq_true rfl | ktr_units); (case kn => assumption); (case kb => omega); (case kp => (unfold gYear; split <;> omega)); intro hyd t9 h9 tk9 F9 N9); (try dsimp only); (try k_fold)))

theorem from_jd_greg_tells (w mean mg mb) (news) (n : Int) (t : Tok) (hb : -2000000 ≤ n ∧ n ≤ 300000000) :
    Tells w mean mg mb 78 4 32 [.float (hf (2 * n + 3442851)) t] news (RetT3 (gYear n) (gMonth n) (gDay n) news) := by
  unfold Tells
  k_fill
  intros
  rename_i hret
  have hN : IsN n := ⟨⟩
  refine wpAny_call ?_
  k_dflt cell_enter
  k_steps
  all_goals (refine' endT3 hret ?e1 ?e2 ?e3 ?e4 ?e5 ?e6; (case e2 => k_asm); (case e3 => k_asm); (case e4 => k_mem); (case e5 => exact sub1); (case e6 => kcu_lt); (case e1 => refine ⟨?_, rfl, ?_⟩ <;> first | omega | (unfold gYear; split <;> omega)))

theorem to_haab_tells (w mean mg mb) (news) (T : Int) (t : Tok) (pre0 : 0 ≤ T ∧ T < 300000000) :
    Tells w mean mg mb 115 1 8 [.float (hf (2 * T + 1168565)) t] news (RetT2 (haabDay T) (haabName T) news) := by
  unfold Tells
  k_fill
  intros
  rename_i hret
  refine wpAny_call ?_
  k_dflt cell_enter
  k_steps
  all_goals (refine' endT2 hret ?e1 ?e2 ?e3 ?e4 ?e5 ?e6; (case e2 => k_asm); (case e3 => k_asm); (case e4 => k_mem); (case e5 => exact sub1); (case e6 => kcu_lt); (case e1 => exact ⟨by unfold haabDay; omega, haab_at (by omega)⟩))
theorem amod13_tells (w mean mg mb) (news) (a : Int) (t t2 : Tok) (pre0 : 0 ≤ a ∧ a < 800000000 ∧ a % 2 = 0) :
    Tells w mean mg mb 49 1 8 [.float (hf a) t, .int 13 t2] news (RetI ((a / 2 + 12) % 13 + 1) news) := by
  unfold Tells
  k_fill
  intros
  rename_i hret
  refine wpAny_call ?_
  k_dflt cell_enter
  k_steps
  all_goals (refine endI hret ?_ (by k_asm) (by k_asm); omega)
theorem amod20_tells (w mean mg mb) (news) (a : Int) (t t2 : Tok) (pre0 : 0 ≤ a ∧ a < 800000000 ∧ a % 2 = 0) :
    Tells w mean mg mb 49 1 8 [.float (hf a) t, .int 20 t2] news (RetI ((a / 2 + 19) % 20 + 1) news) := by
  unfold Tells
  k_fill
  intros
  rename_i hret
  refine wpAny_call ?_
  k_dflt cell_enter
  k_steps
  all_goals (refine endI hret ?_ (by k_asm) (by k_asm); omega)
local macro_rules | `(tactic| walk_at "call ref") => `(tactic| ((with_reducible show wpAny _ _ (call (Value.ref _) _) _ _ _); k_dflt ((show wpAny _ _ (call (Value.ref 49) [Value.float (hf _) _, Value.int 13 _]) _ _ _); (refine' Tells.use ?k1 ?k2 ?k3 ?k4 ?k5 ?kK (amod13_tells _ _ _ _ _ _ _ _ ?kp) ?kd ?ku ?_); (case k1 => k_asm); (case k2 => k_asm); (case k3 => k_asm); (case k4 => k_asm); (case k5 => k_asm); (case kK => first | exact rfl | assumption); (case kd => first | exact Nat.le_of_ble_eq_true rfl | ktr_room); (case ku => first | exact Nat.le_of_ble_eq_true rfl | ktr_units); (case kp => omega); intro t9 h9 tk9 F9 N9); (try dsimp only); (try k_fold)))
local macro_rules | `(tactic| walk_at "call ref") => `(tactic| ((with_reducible show wpAny _ _ (call (Value.ref _) _) _ _ _); k_dflt ((show wpAny _ _ (call (Value.ref 49) [Value.float (hf _) _, Value.int 20 _]) _ _ _); (refine' Tells.use ?k1 ?k2 ?k3 ?k4 ?k5 ?kK (amod20_tells _ _ _ _ _ _ _ _ ?kp) ?kd ?ku ?_); (case k1 => k_asm); (case k2 => k_asm); (case k3 => k_asm); (case k4 => k_asm); (case k5 => k_asm); (case kK => first | exact rfl | assumption); (case kd => first | exact Nat.le_of_ble_eq_true rfl | ktr_room); (case ku => first | exact Nat.le_of_ble_eq_true rfl | ktr_units); (case kp => omega); intro t9 h9 tk9 F9 N9); (try dsimp only); (try k_fold)))

theorem to_tzolkin_tells (w mean mg mb) (news) (T : Int) (t : Tok) (pre0 : 0 ≤ T ∧ T < 300000000) :
    Tells w mean mg mb 122 2 16 [.float (hf (2 * T + 1168565)) t] news (RetT2 (tzolDay T) (tzolName T) news) := by
  unfold Tells
  k_fill
  intros
  rename_i hret
  refine wpAny_call ?_
  k_dflt cell_enter
  k_steps
  all_goals (refine' endT2 hret ?e1 ?e2 ?e3 ?e4 ?e5 ?e6; (case e2 => k_asm); (case e3 => k_asm); (case e4 => k_mem); (case e5 => exact sub1); (case e6 => kcu_lt); (case e1 => exact ⟨by unfold tzolDay; omega, tzol_at (by omega)⟩))

local macro_rules | `(tactic| walk_at "call ref") => `(tactic| ((with_reducible show wpAny _ _ (call (Value.ref _) _) _ _ _); k_dflt ((show wpAny _ _ (call (Value.ref 115) [Value.float (hf _) _]) _ _ _); (refine' Tells.use ?k1 ?k2 ?k3 ?k4 ?k5 ?kK (to_haab_tells _ _ _ _ _ _ _ ?kp) ?kd ?ku ?_); (case k1 => k_asm); (case k2 => k_asm); (case k3 => k_asm); (case k4 => k_asm); (case k5 => k_asm); (case kK => first | exact rfl | assumption); (case kd => first | exact Nat.le_of_ble_eq_true rfl | ktr_room); (case ku => first | exact Nat.le_of_ble_eq_true rfl | ktr_units); (case kp => omega); intro D9 ta9 tb9 c9 h9 tk9 F9 N9 l9); (try dsimp only); (try k_fold)))
local macro_rules | `(tactic| walk_at "call ref") => `(tactic| ((with_reducible show wpAny _ _ (call (Value.ref _) _) _ _ _); k_dflt ((show wpAny _ _ (call (Value.ref 122) [Value.float (hf _) _]) _ _ _); (refine' Tells.use ?k1 ?k2 ?k3 ?k4 ?k5 ?kK (to_tzolkin_tells _ _ _ _ _ _ _ ?kp) ?kd ?ku ?_); (case k1 => k_asm); (case k2 => k_asm); (case k3 => k_asm); (case k4 => k_asm); (case k5 => k_asm); (case kK => first | exact rfl | assumption); (case kd => first | exact Nat.le_of_ble_eq_true rfl | ktr_room); (case ku => first | exact Nat.le_of_ble_eq_true rfl | ktr_units); (case kp => omega); intro D9 ta9 tb9 c9 h9 tk9 F9 N9 l9); (try dsimp only); (try k_fold)))
local macro_rules | `(tactic| walk_at "call ref") => `(tactic| ((with_reducible show wpAny _ _ (call (Value.ref _) _) _ _ _); k_dflt ((show wpAny _ _ (call (Value.ref 87) [Value.int _ _, Value.int _ _, Value.int _ _, Value.int _ _, Value.int _ _]) _ _ _); (refine' Tells.use ?k1 ?k2 ?k3 ?k4 ?k5 ?kK (to_jd_mayan_tells _ _ _ _ _ _ _ _ _ _ _ _ _ _ _ ?kp) ?kd ?ku ?_); (case k1 => k_asm); (case k2 => k_asm); (case k3 => k_asm); (case k4 => k_asm); (case k5 => k_asm); (case kK => first | exact rfl | assumption); (case kd => first | exact Nat.le_of_ble_eq_true rfl | ktr_room); (case ku => first | exact Nat.le_of_ble_eq_true rfl | ktr_units); (case kp => omega); intro t9 h9 tk9 F9 N9); (try dsimp only); (try k_fold)))

theorem lc_to_haab_tells (w mean mg mb) (news) (T : Int) (a b c d e : Int) (ta tb tc td te : Tok) (pre0 : -1000 < a ∧ a < 1100 ∧ -1000 < b ∧ b < 1100 ∧ -1000 < c ∧ c < 1100 ∧ -1000 < d ∧ d < 1100 ∧ -1000 < e ∧ e < 1100 ∧ 0 ≤ T ∧ T = 144000 * a + 7200 * b + 360 * c + 20 * d + e) :
    Tells w mean mg mb 129 3 24 [.int a ta, .int b tb, .int c tc, .int d td, .int e te] news (RetT2 (haabDay T) (haabName T) news) := by
  unfold Tells
  k_fill
  intros
  rename_i hret
  refine wpAny_call ?_
  k_dflt cell_enter
  k_steps
  all_goals (refine' endT2 hret ?e1 ?e2 ?e3 ?e4 ?e5 ?e6; (case e2 => k_asm); (case e3 => k_asm); (case e4 => k_mem); (case e5 => first | exact sub1 | exact sub2 | exact sub3 | exact sub4); (case e6 => first | exact allLt_of (by assumption) | assumption | exact And.right (by assumption) | exact And.right (And.right (by assumption)) | exact And.right (And.right (And.right (by assumption)))); (case e1 => ((have hT : T = 144000 * a + 7200 * b + 360 * c + 20 * d + e := by omega); (rw [hT]; exact ⟨rfl, rfl⟩))))

theorem lc_to_tzolkin_tells (w mean mg mb) (news) (T : Int) (a b c d e : Int) (ta tb tc td te : Tok) (pre0 : -1000 < a ∧ a < 1100 ∧ -1000 < b ∧ b < 1100 ∧ -1000 < c ∧ c < 1100 ∧ -1000 < d ∧ d < 1100 ∧ -1000 < e ∧ e < 1100 ∧ 0 ≤ T ∧ T = 144000 * a + 7200 * b + 360 * c + 20 * d + e) :
    Tells w mean mg mb 136 3 24 [.int a ta, .int b tb, .int c tc, .int d td, .int e te] news (RetT2 (tzolDay T) (tzolName T) news) := by
  unfold Tells
  k_fill
  intros
  rename_i hret
  refine wpAny_call ?_
  k_dflt cell_enter
  k_steps
  all_goals (refine' endT2 hret ?e1 ?e2 ?e3 ?e4 ?e5 ?e6; (case e2 => k_asm); (case e3 => k_asm); (case e4 => k_mem); (case e5 => first | exact sub1 | exact sub2 | exact sub3 | exact sub4); (case e6 => first | exact allLt_of (by assumption) | assumption | exact And.right (by assumption) | exact And.right (And.right (by assumption)) | exact And.right (And.right (And.right (by assumption)))); (case e1 => ((have hT : T = 144000 * a + 7200 * b + 360 * c + 20 * d + e := by omega); (rw [hT]; exact ⟨rfl, rfl⟩))))

theorem law_haab_tells (w mean mg mb) (news) (T : Int) (t : Tok) (pre0 : 0 ≤ T ∧ T < 300000000) :
    Tells w mean mg mb 171 1 8 [.int T t] news (RetT2 (haabDay T) (haabName T) news) := by
  unfold Tells
  k_fill
  intros
  rename_i hret
  refine wpAny_call ?_
  k_dflt cell_enter
  k_steps
  all_goals (refine' endT2 hret ?e1 ?e2 ?e3 ?e4 ?e5 ?e6; (case e2 => k_asm); (case e3 => k_asm); (case e4 => k_mem); (case e5 => first | exact sub1 | exact sub2 | exact sub3 | exact sub4); (case e6 => first | exact allLt_of (by assumption) | assumption | exact And.right (by assumption) | exact And.right (And.right (by assumption)) | exact And.right (And.right (And.right (by assumption)))); (case e1 => exact ⟨by rw [fm365, fm20]; rfl, by rw [fm365, fd20]; rfl⟩))

theorem law_tzolkin_tells (w mean mg mb) (news) (T : Int) (t : Tok) (pre0 : 0 ≤ T ∧ T < 300000000) :
    Tells w mean mg mb 178 1 8 [.int T t] news (RetT2 (tzolDay T) (tzolName T) news) := by
  unfold Tells
  k_fill
  intros
  rename_i hret
  refine wpAny_call ?_
  k_dflt cell_enter
  k_steps
  all_goals (refine' endT2 hret ?e1 ?e2 ?e3 ?e4 ?e5 ?e6; (case e2 => k_asm); (case e3 => k_asm); (case e4 => k_mem); (case e5 => first | exact sub1 | exact sub2 | exact sub3 | exact sub4); (case e6 => first | exact allLt_of (by assumption) | assumption | exact And.right (by assumption) | exact And.right (And.right (by assumption)) | exact And.right (And.right (And.right (by assumption)))); (case e1 => exact ⟨by rw [fm13]; rfl, by rw [fm20]; rfl⟩))

local macro_rules | `(tactic| walk_at "call ref") => `(tactic| ((with_reducible show wpAny _ _ (call (Value.ref _) _) _ _ _); k_dflt ((show wpAny _ _ (call (Value.ref 115) [Value.float (hf _) _]) _ _ _); (refine' Tells.use ?k1 ?k2 ?k3 ?k4 ?k5 ?kK (to_haab_tells _ _ _ _ _ _ _ ?kp) ?kd ?ku ?_); (case k1 => k_asm); (case k2 => k_asm); (case k3 => k_asm); (case k4 => k_asm); (case k5 => k_asm); (case kK => first | exact rfl | assumption); (case kd => first | exact Nat.le_of_ble_eq_true rfl | ktr_room); (case ku => first | exact Nat.le_of_ble_eq_true rfl | ktr_units); (case kp => omega); intro D9 ta9 tb9 c9 h9 tk9 F9 N9 l9); (try dsimp only); (try k_fold)))
local macro_rules | `(tactic| walk_at "call ref") => `(tactic| ((with_reducible show wpAny _ _ (call (Value.ref _) _) _ _ _); k_dflt ((show wpAny _ _ (call (Value.ref 122) [Value.float (hf _) _]) _ _ _); (refine' Tells.use ?k1 ?k2 ?k3 ?k4 ?k5 ?kK (to_tzolkin_tells _ _ _ _ _ _ _ ?kp) ?kd ?ku ?_); (case k1 => k_asm); (case k2 => k_asm); (case k3 => k_asm); (case k4 => k_asm); (case k5 => k_asm); (case kK => first | exact rfl | assumption); (case kd => first | exact Nat.le_of_ble_eq_true rfl | ktr_room); (case ku => first | exact Nat.le_of_ble_eq_true rfl | ktr_units); (case kp => omega); intro D9 ta9 tb9 c9 h9 tk9 F9 N9 l9); (try dsimp only); (try k_fold)))
local macro_rules | `(tactic| walk_at "call ref") => `(tactic| ((with_reducible show wpAny _ _ (call (Value.ref _) _) _ _ _); k_dflt ((show wpAny _ _ (call (Value.ref 87) [Value.int _ _, Value.int _ _, Value.int _ _, Value.int _ _, Value.int _ _]) _ _ _); (refine' Tells.use ?k1 ?k2 ?k3 ?k4 ?k5 ?kK (to_jd_mayan_tells _ _ _ _ _ _ _ _ _ _ _ _ _ _ _ ?kp) ?kd ?ku ?_); (case k1 => k_asm); (case k2 => k_asm); (case k3 => k_asm); (case k4 => k_asm); (case k5 => k_asm); (case kK => first | exact rfl | assumption); (case kd => first | exact Nat.le_of_ble_eq_true rfl | ktr_room); (case ku => first | exact Nat.le_of_ble_eq_true rfl | ktr_units); (case kp => omega); intro t9 h9 tk9 F9 N9); (try dsimp only); (try k_fold)))
local macro_rules | `(tactic| walk_at "eval Call Attribute") => `(tactic| ((with_reducible show wpAny _ _ (eval (Expr.Call (Expr.Attribute (Expr.Constant (Const.str _) _ _) _ _) [Expr.Starred _ _] [] _) _) _ _ _); k_dflt ((refine' eval_format_star ?fF ?fN ?_); (case fF => k_asm); (case fN => k_asm); intro b9 t9 h9 tk9 F9 N9 l9); (try dsimp only)))
local macro_rules | `(tactic| walk_at "And") => `(tactic| ((with_reducible show StandsB _ _ _ ∧ _); k_dflt (refine ⟨News.get (by k_asm) (by k_mem), ?_⟩); (try dsimp only [List.nil_append, List.cons_append])))
local macro_rules | `(tactic| walk_at "call ref") => `(tactic| ((with_reducible show wpAny _ _ (call (Value.ref _) [Value.int (tzolDay _) _, Value.str _ _, Value.int (haabDay _) _, Value.str _ _]) _ _ _); k_dflt ((refine' call_fmt ?fN ?fb (tzolDay_bd _) (haabDay_bd _) (tzolName_len _) (haabName_len _) ?_); (case fN => k_asm); (case fb => k_mem); intro t9 k9); (try dsimp only)))

theorem lc_to_ht_tells (w mean mg mb) (news) (T : Int) (a b c d e : Int) (ta tb tc td te : Tok) (pre0 : -1000 < a ∧ a < 1100 ∧ -1000 < b ∧ b < 1100 ∧ -1000 < c ∧ c < 1100 ∧ -1000 < d ∧ d < 1100 ∧ -1000 < e ∧ e < 1100 ∧ 0 ≤ T ∧ T = 144000 * a + 7200 * b + 360 * c + 20 * d + e) :
    Tells w mean mg mb 143 3 24 [.int a ta, .int b tb, .int c tc, .int d td, .int e te] news (RetS (roundText T) news) := by
  unfold Tells
  k_fill
  intros
  rename_i hret
  refine wpAny_call ?_
  k_dflt cell_enter
  k_steps
  all_goals (refine' endS hret ?e1 ?e2 (cb_drop ?e3 ?e4); (case e2 => k_asm); (case e3 => assumption); (case e4 => first | exact sub0 | exact sub1 | exact sub2 | exact sub3 | exact sub4 | exact sub5 | exact sub6 | exact sub7 | exact sub8); (case e1 => ((have hT : T = 144000 * a + 7200 * b + 360 * c + 20 * d + e := by omega); (rw [hT]; rfl))))

structure IsT (T : Int) : Prop where
theorem lc_to_haab_T (w mean mg mb) (news) {T : Int} (mT0 : IsT T) (a b c d e : Int) (ta tb tc td te : Tok) (pre0 : -1000 < a ∧ a < 1100 ∧ -1000 < b ∧ b < 1100 ∧ -1000 < c ∧ c < 1100 ∧ -1000 < d ∧ d < 1100 ∧ -1000 < e ∧ e < 1100 ∧ 0 ≤ T ∧ T = 144000 * a + 7200 * b + 360 * c + 20 * d + e) :
    Tells w mean mg mb 129 3 24 [.int a ta, .int b tb, .int c tc, .int d td, .int e te] news (RetT2 (haabDay T) (haabName T) news) := lc_to_haab_tells w mean mg mb news T a b c d e ta tb tc td te pre0
theorem lc_to_tzolkin_T (w mean mg mb) (news) {T : Int} (mT0 : IsT T) (a b c d e : Int) (ta tb tc td te : Tok) (pre0 : -1000 < a ∧ a < 1100 ∧ -1000 < b ∧ b < 1100 ∧ -1000 < c ∧ c < 1100 ∧ -1000 < d ∧ d < 1100 ∧ -1000 < e ∧ e < 1100 ∧ 0 ≤ T ∧ T = 144000 * a + 7200 * b + 360 * c + 20 * d + e) :
    Tells w mean mg mb 136 3 24 [.int a ta, .int b tb, .int c tc, .int d td, .int e te] news (RetT2 (tzolDay T) (tzolName T) news) := lc_to_tzolkin_tells w mean mg mb news T a b c d e ta tb tc td te pre0
theorem lc_to_ht_T (w mean mg mb) (news) {T : Int} (mT0 : IsT T) (a b c d e : Int) (ta tb tc td te : Tok) (pre0 : -1000 < a ∧ a < 1100 ∧ -1000 < b ∧ b < 1100 ∧ -1000 < c ∧ c < 1100 ∧ -1000 < d ∧ d < 1100 ∧ -1000 < e ∧ e < 1100 ∧ 0 ≤ T ∧ T = 144000 * a + 7200 * b + 360 * c + 20 * d + e) :
    Tells w mean mg mb 143 3 24 [.int a ta, .int b tb, .int c tc, .int d td, .int e te] news (RetS (roundText T) news) := lc_to_ht_tells w mean mg mb news T a b c d e ta tb tc td te pre0
local macro_rules | `(tactic| walk_at "call ref") => `(tactic| ((with_reducible show wpAny _ _ (call (Value.ref _) _) _ _ _); k_dflt ((show wpAny _ _ (call (Value.ref 129) [Value.int _ _, Value.int _ _, Value.int _ _, Value.int _ _, Value.int _ _]) _ _ _); (refine' Tells.use ?k1 ?k2 ?k3 ?k4 ?k5 ?kK (lc_to_haab_T _ _ _ _ _ ?kT _ _ _ _ _ _ _ _ _ _ ?kp) ?kd ?ku ?_); (case k1 => k_asm); (case k2 => k_asm); (case k3 => k_asm); (case k4 => k_asm); (case k5 => k_asm); (case kK => first | exact rfl | assumption); (case kd => first | exact Nat.le_of_ble_eq_true rfl | ktr_room); (case ku => first | exact Nat.le_of_ble_eq_true rfl | ktr_units); (case kT => assumption); (case kp => omega); intro D9 ta9 tb9 c9 h9 tk9 F9 N9 l9); (try dsimp only); (try k_fold)))
local macro_rules | `(tactic| walk_at "call ref") => `(tactic| ((with_reducible show wpAny _ _ (call (Value.ref _) _) _ _ _); k_dflt ((show wpAny _ _ (call (Value.ref 136) [Value.int _ _, Value.int _ _, Value.int _ _, Value.int _ _, Value.int _ _]) _ _ _); (refine' Tells.use ?k1 ?k2 ?k3 ?k4 ?k5 ?kK (lc_to_tzolkin_T _ _ _ _ _ ?kT _ _ _ _ _ _ _ _ _ _ ?kp) ?kd ?ku ?_); (case k1 => k_asm); (case k2 => k_asm); (case k3 => k_asm); (case k4 => k_asm); (case k5 => k_asm); (case kK => first | exact rfl | assumption); (case kd => first | exact Nat.le_of_ble_eq_true rfl | ktr_room); (case ku => first | exact Nat.le_of_ble_eq_true rfl | ktr_units); (case kT => assumption); (case kp => omega); intro D9 ta9 tb9 c9 h9 tk9 F9 N9 l9); (try dsimp only); (try k_fold)))
local macro_rules | `(tactic| walk_at "call ref") => `(tactic| ((with_reducible show wpAny _ _ (call (Value.ref _) _) _ _ _); k_dflt ((show wpAny _ _ (call (Value.ref 143) [Value.int _ _, Value.int _ _, Value.int _ _, Value.int _ _, Value.int _ _]) _ _ _); (refine' Tells.use ?k1 ?k2 ?k3 ?k4 ?k5 ?kK (lc_to_ht_T _ _ _ _ _ ?kT _ _ _ _ _ _ _ _ _ _ ?kp) ?kd ?ku ?_); (case k1 => k_asm); (case k2 => k_asm); (case k3 => k_asm); (case k4 => k_asm); (case k5 => k_asm); (case kK => first | exact rfl | assumption); (case kd => first | exact Nat.le_of_ble_eq_true rfl | ktr_room); (case ku => first | exact Nat.le_of_ble_eq_true rfl | ktr_units); (case kT => assumption); (case kp => omega); intro t9 h9 tk9 F9 N9); (try dsimp only); (try k_fold)))
local macro_rules | `(tactic| walk_at "call ref") => `(tactic| ((with_reducible show wpAny _ _ (call (Value.ref _) _) _ _ _); k_dflt ((show wpAny _ _ (call (Value.ref 171) [Value.int _ _]) _ _ _); (refine' Tells.use ?k1 ?k2 ?k3 ?k4 ?k5 ?kK (law_haab_tells _ _ _ _ _ _ _ ?kp) ?kd ?ku ?_); (case k1 => k_asm); (case k2 => k_asm); (case k3 => k_asm); (case k4 => k_asm); (case k5 => k_asm); (case kK => first | exact rfl | assumption); (case kd => first | exact Nat.le_of_ble_eq_true rfl | ktr_room); (case ku => first | exact Nat.le_of_ble_eq_true rfl | ktr_units); (case kp => omega); intro D9 ta9 tb9 c9 h9 tk9 F9 N9 l9); (try dsimp only); (try k_fold)))
local macro_rules | `(tactic| walk_at "call ref") => `(tactic| ((with_reducible show wpAny _ _ (call (Value.ref _) _) _ _ _); k_dflt ((show wpAny _ _ (call (Value.ref 178) [Value.int _ _]) _ _ _); (refine' Tells.use ?k1 ?k2 ?k3 ?k4 ?k5 ?kK (law_tzolkin_tells _ _ _ _ _ _ _ ?kp) ?kd ?ku ?_); (case k1 => k_asm); (case k2 => k_asm); (case k3 => k_asm); (case k4 => k_asm); (case k5 => k_asm); (case kK => first | exact rfl | assumption); (case kd => first | exact Nat.le_of_ble_eq_true rfl | ktr_room); (case ku => first | exact Nat.le_of_ble_eq_true rfl | ktr_units); (case kp => omega); intro D9 ta9 tb9 c9 h9 tk9 F9 N9 l9); (try dsimp only); (try k_fold)))
local macro_rules | `(tactic| walk_at "compareOp NotEq ref ref") => `(tactic| (k_here; (with_reducible show wpAny _ _ (compareOp CmpOp.NotEq (Value.ref _) (Value.ref _)) _ _ _); k_dflt ((refine' ne_T2 ?qN ?qa ?qb ?qe ?qx ?qu ?_); (case qN => k_asm); (case qa => k_mem); (case qb => k_mem); (case qe => exact ⟨rfl, rfl⟩); (case qx => first | exact haabName_ok _ | exact tzolName_ok _); (case qu => ktr_units)); (try dsimp only)))

theorem law_rounds_tells (w mean mg mb) (news) (T : Int) (a b c d e : Int) (ta tb tc td te : Tok) (tT : Tok) (pre0 : -1000 < a ∧ a < 1100 ∧ -1000 < b ∧ b < 1100 ∧ -1000 < c ∧ c < 1100 ∧ -1000 < d ∧ d < 1100 ∧ -1000 < e ∧ e < 1100 ∧ 0 ≤ T ∧ T = 144000 * a + 7200 * b + 360 * c + 20 * d + e) :
    Tells w mean mg mb 185 4 200 [.int a ta, .int b tb, .int c tc, .int d td, .int e te, .int T tT] news (RetB true news) := by
  unfold Tells
  k_fill
  intros
  rename_i hret
  have hT : IsT T := ⟨⟩
  have b1 := tzolDay_bd T
  have b2 := haabDay_bd T
  have b3 := tzolName_len T
  have b4 := haabName_len T
  refine wpAny_call ?_
  k_dflt cell_enter
  k_steps
  all_goals (refine' endB hret ?e1 ?e2 (cb_drop ?e3 ?e4); (case e2 => k_asm); (case e3 => assumption); (case e4 => first | exact sub0 | exact sub1 | exact sub2 | exact sub3 | exact sub4 | exact sub5 | exact sub6 | exact sub7 | exact sub8); (case e1 => exact beq_iff_eq.mpr rfl))

theorem from_jd_greg_T (w mean mg mb) (news) (T : Int) (t : Tok) (pre0 : 0 ≤ T ∧ T < 300000000) :
    Tells w mean mg mb 78 4 32 [.float (hf (2 * T + 1168565)) t] news (RetT3 (gYear (T - 1137143)) (gMonth (T - 1137143)) (gDay (T - 1137143)) news) := by
  have h := from_jd_greg_tells w mean mg mb news (T - 1137143) t (by omega)
  rw [show 2 * (T - 1137143) + 3442851 = 2 * T + 1168565 by omega] at h
  exact h
theorem to_jd_greg_T (w mean mg mb) (news) (T : Int) (t t2 t3 : Tok) (pre0 : 0 ≤ T ∧ T < 300000000) :
    Tells w mean mg mb 71 3 24 [.int (gYear (T - 1137143)) t, .int (gMonth (T - 1137143)) t2, .int (gDay (T - 1137143)) t3] news (RetF (2 * T + 1168565) news) := by
  have hG := greg_fact (T - 1137143)
  have hY := gYear_bound (n := T - 1137143) (by omega)
  have h := to_jd_greg_tells w mean mg mb news (gYear (T - 1137143)) (gMonth (T - 1137143)) (gDay (T - 1137143)) t t2 t3 ⟨by omega, by omega, hG.1, hG.2.1, hG.2.2.1, hG.2.2.2.1, hG.2.2.2.2.1, hG.2.2.2.2.2.1⟩
  rw [hG.2.2.2.2.2.2, show 2 * (T - 1137143 + 1) + 3442849 = 2 * T + 1168565 by omega] at h
  exact h
local macro_rules | `(tactic| walk_at "call ref") => `(tactic| ((with_reducible show wpAny _ _ (call (Value.ref _) _) _ _ _); k_dflt ((show wpAny _ _ (call (Value.ref 78) [Value.float (hf (2 * _ + 1168565)) _]) _ _ _); (refine' Tells.use ?k1 ?k2 ?k3 ?k4 ?k5 ?kK (from_jd_greg_T _ _ _ _ _ _ _ ?kp) ?kd ?ku ?_); (case k1 => k_asm); (case k2 => k_asm); (case k3 => k_asm); (case k4 => k_asm); (case k5 => k_asm); (case kK => first | exact rfl | assumption); (case kd => first | exact Nat.le_of_ble_eq_true rfl | ktr_room); (case ku => first | exact Nat.le_of_ble_eq_true rfl | ktr_units); (case kp => omega); intro D9 ta9 tb9 tc9 c9 h9 tk9 F9 N9 l9); (try dsimp only); (try k_fold)))
local macro_rules | `(tactic| walk_at "call ref") => `(tactic| ((with_reducible show wpAny _ _ (call (Value.ref _) _) _ _ _); k_dflt ((show wpAny _ _ (call (Value.ref 71) [Value.int (gYear _) _, Value.int (gMonth _) _, Value.int (gDay _) _]) _ _ _); (refine' Tells.use ?k1 ?k2 ?k3 ?k4 ?k5 ?kK (to_jd_greg_T _ _ _ _ _ _ _ _ _ ?kp) ?kd ?ku ?_); (case k1 => k_asm); (case k2 => k_asm); (case k3 => k_asm); (case k4 => k_asm); (case k5 => k_asm); (case kK => first | exact rfl | assumption); (case kd => first | exact Nat.le_of_ble_eq_true rfl | ktr_room); (case ku => first | exact Nat.le_of_ble_eq_true rfl | ktr_units); (case kp => omega); intro t9 h9 tk9 F9 N9); (try dsimp only); (try k_fold)))
local macro_rules | `(tactic| walk_at "call ref") => `(tactic| ((with_reducible show wpAny _ _ (call (Value.ref _) _) _ _ _); k_dflt ((show wpAny _ _ (call (Value.ref 87) [Value.int _ _, Value.int _ _, Value.int _ _, Value.int _ _, Value.int _ _]) _ _ _); (refine' Tells.use ?k1 ?k2 ?k3 ?k4 ?k5 ?kK (to_jd_mayan_tells _ _ _ _ _ _ _ _ _ _ _ _ _ _ _ ?kp) ?kd ?ku ?_); (case k1 => k_asm); (case k2 => k_asm); (case k3 => k_asm); (case k4 => k_asm); (case k5 => k_asm); (case kK => first | exact rfl | assumption); (case kd => first | exact Nat.le_of_ble_eq_true rfl | ktr_room); (case ku => first | exact Nat.le_of_ble_eq_true rfl | ktr_units); (case kp => omega); intro t9 h9 tk9 F9 N9); (try dsimp only); (try k_fold)))
local macro_rules | `(tactic| walk_at "call ref") => `(tactic| ((with_reducible show wpAny _ _ (call (Value.ref _) _) _ _ _); k_dflt ((show wpAny _ _ (call (Value.ref 94) [Value.float (hf (2 * _ + 1168565)) _]) _ _ _); (refine' Tells.use ?k1 ?k2 ?k3 ?k4 ?k5 ?kK (from_jd_mayan_tells _ _ _ _ _ _ _ ?kp) ?kd ?ku ?_); (case k1 => k_asm); (case k2 => k_asm); (case k3 => k_asm); (case k4 => k_asm); (case k5 => k_asm); (case kK => first | exact rfl | assumption); (case kd => first | exact Nat.le_of_ble_eq_true rfl | ktr_room); (case ku => first | exact Nat.le_of_ble_eq_true rfl | ktr_units); (case kp => omega); intro D9 ta9 tb9 tc9 td9 te9 c9 h9 tk9 F9 N9 l9); (try dsimp only); (try k_fold)))

theorem to_gregorian_T (w mean mg mb) (news) {T : Int} (mT0 : IsT T) (a b c d e : Int) (ta tb tc td te : Tok) (pre0 : -1000 < a ∧ a < 1100 ∧ -1000 < b ∧ b < 1100 ∧ -1000 < c ∧ c < 1100 ∧ -1000 < d ∧ d < 1100 ∧ -1000 < e ∧ e < 1100 ∧ 0 ≤ T ∧ T = 144000 * a + 7200 * b + 360 * c + 20 * d + e) :
    Tells w mean mg mb 101 5 60 [.int a ta, .int b tb, .int c tc, .int d td, .int e te] news (RetT3 (gYear (T - 1137143)) (gMonth (T - 1137143)) (gDay (T - 1137143)) news) := by
  unfold Tells
  k_fill
  intros
  rename_i hret
  refine wpAny_call ?_
  k_dflt cell_enter
  k_steps
  all_goals (refine' endT3 hret ?e1 ?e2 ?e3 ?e4 ?e5 ?e6; (case e2 => k_asm); (case e3 => k_asm); (case e4 => k_mem); (case e5 => first | exact sub0 | exact sub1 | exact sub2 | exact sub3 | exact sub4 | exact sub5 | exact sub6 | exact sub7 | exact sub8); (case e6 => first | exact allLt_of (by assumption) | assumption | exact And.right (by assumption) | exact And.right (And.right (by assumption)) | exact And.right (And.right (And.right (by assumption)))); (case e1 => ((have hT : T = 144000 * a + 7200 * b + 360 * c + 20 * d + e := by omega); (rw [hT]; exact ⟨rfl, rfl, rfl⟩))))

theorem from_gregorian_tells (w mean mg mb) (news) (T : Int) (t t2 t3 : Tok) (pre0 : 0 ≤ T ∧ T < 300000000) :
    Tells w mean mg mb 108 5 60 [.int (gYear (T - 1137143)) t, .int (gMonth (T - 1137143)) t2, .int (gDay (T - 1137143)) t3] news (RetT5 (T / 144000) (T % 144000 / 7200) (T % 7200 / 360) (T % 360 / 20) (T % 20) news) := by
  unfold Tells
  k_fill
  intros
  rename_i hret
  refine wpAny_call ?_
  k_dflt cell_enter
  k_steps
  all_goals (refine' endT5 hret ?e1 ?e2 ?e3 ?e4 ?e5 ?e6; (case e2 => k_asm); (case e3 => k_asm); (case e4 => k_mem); (case e5 => first | exact sub0 | exact sub1 | exact sub2 | exact sub3 | exact sub4 | exact sub5 | exact sub6 | exact sub7 | exact sub8); (case e6 => first | exact allLt_of (by assumption) | assumption | exact And.right (by assumption) | exact And.right (And.right (by assumption)) | exact And.right (And.right (And.right (by assumption)))); (case e1 => exact ⟨rfl, rfl, rfl, rfl, rfl⟩))

theorem law_day_tells (w mean mg mb) (news) (T : Int) (t : Tok) (pre0 : -300000000 < T ∧ T < 300000000) :
    Tells w mean mg mb 157 1 8 [.float (hf (2 * T + 1168565)) t] news (RetI (584283 + T) news) := by
  unfold Tells
  k_fill
  intros
  rename_i hret
  refine wpAny_call ?_
  k_dflt cell_enter
  k_steps
  all_goals (refine' endI hret ?e1 ?e2 (cb_drop ?e3 ?e4); (case e2 => k_asm); (case e3 => assumption); (case e4 => first | exact sub0 | exact sub1 | exact sub2 | exact sub3 | exact sub4 | exact sub5 | exact sub6 | exact sub7 | exact sub8); (case e1 => (rw [fd2]; omega)))

theorem to_gregorian_S (w mean mg mb) (news) (a b c d e : Int) (ta tb tc td te : Tok) (pre0 : -1000 < a ∧ a < 1100 ∧ -1000 < b ∧ b < 1100 ∧ -1000 < c ∧ c < 1100 ∧ -1000 < d ∧ d < 1100 ∧ -1000 < e ∧ e < 1100 ∧ 0 ≤ 144000 * a + 7200 * b + 360 * c + 20 * d + e) :
    Tells w mean mg mb 101 5 60 [.int a ta, .int b tb, .int c tc, .int d td, .int e te] news (RetT3 (gYear (144000 * a + 7200 * b + 360 * c + 20 * d + e - 1137143)) (gMonth (144000 * a + 7200 * b + 360 * c + 20 * d + e - 1137143)) (gDay (144000 * a + 7200 * b + 360 * c + 20 * d + e - 1137143)) news) :=
  to_gregorian_T w mean mg mb news ⟨⟩ a b c d e ta tb tc td te ⟨pre0.1, pre0.2.1, pre0.2.2.1, pre0.2.2.2.1, pre0.2.2.2.2.1, pre0.2.2.2.2.2.1, pre0.2.2.2.2.2.2.1, pre0.2.2.2.2.2.2.2.1, pre0.2.2.2.2.2.2.2.2.1, pre0.2.2.2.2.2.2.2.2.2.1, pre0.2.2.2.2.2.2.2.2.2.2, rfl⟩
local macro_rules | `(tactic| wrow_close) => `(tactic| (refine' law_end ?eF ?eG ?eO; (case eF => k_asm); (case eG => assumption); (case eO => exact rfl)))
local macro_rules | `(tactic| walk_at "binaryOp FloorDiv int int") => `(tactic| (refine' r_fdiv ?qb ?_; (case qb => omega); (try dsimp only)))
local macro_rules | `(tactic| walk_at "binaryOp Mod int int") => `(tactic| (refine' r_fmod ?qb ?_; (case qb => omega); (try dsimp only)))
local macro_rules | `(tactic| walk_at "compareOp NotEq int int") => `(tactic| (refine' r_ne_same ?qe ?_; (case qe => first | exact rfl | omega); (try dsimp only)))
local macro_rules | `(tactic| walk_at "compareOp NotEq float float") => `(tactic| (refine' r_ne_ff_same ?qx ?qy ?qa ?qe ?_; (case qx => with_reducible exact rfl); (case qy => with_reducible exact rfl); (case qa => omega); (case qe => omega); (try dsimp only)))
local macro_rules | `(tactic| walk_at "eval IfExp") => `(tactic| (k_here; (with_reducible show wpAny _ _ (eval (Expr.IfExp (Expr.Compare _ [_, _] _ _) _ _ _) _) _ _ _); (fail_if_success (rename MarkZ => hMz)); (refine cut_num (fun hMz => ?_) ?_); rotate_left; (intro z9 t9 tk9 hz9; (try dsimp only)); rotate_right; (try k_fold)))
local macro_rules | `(tactic| walk_at "CutZ") => `(tactic| (k_dflt (refine cutZ_end (tk := _) rfl ?_); omega))
local macro_rules | `(tactic| walk_at "compareOp NotEq ref ref") => `(tactic| (k_here; (with_reducible show wpAny _ _ (compareOp CmpOp.NotEq (Value.ref _) (Value.ref _)) _ _ _); k_dflt ((refine' ne_T5 ?qN ?qa ?qb ?qe ?qu ?_); (case qN => k_asm); (case qa => k_mem); (case qb => k_mem); (case qe => refine ⟨?_, ?_, ?_, ?_, ?_⟩ <;> omega); (case qu => ke_room)); (try dsimp only)))
local macro_rules | `(tactic| walk_at "compareOp Eq ref ref") => `(tactic| (k_here; (with_reducible show wpAny _ _ (compareOp CmpOp.Eq (Value.ref _) (Value.ref _)) _ _ _); k_dflt ((refine' eq_T5 ?qN ?qa ?qb ?qe ?qu ?_); (case qN => k_asm); (case qa => k_mem); (case qb => k_mem); (case qe => refine ⟨?_, ?_, ?_, ?_, ?_⟩ <;> omega); (case qu => ke_room)); (try dsimp only)))
local macro_rules | `(tactic| walk_at "compareOp Eq ref ref") => `(tactic| (k_here; (with_reducible show wpAny _ _ (compareOp CmpOp.Eq (Value.ref _) (Value.ref _)) _ _ _); k_dflt ((refine' eq_T3 ?qN ?qa ?qb ?qe ?qu ?_); (case qN => k_asm); (case qa => k_mem); (case qb => k_mem); (case qe => exact ⟨rfl, rfl, rfl⟩); (case qu => ke_room)); (try dsimp only)))
local macro_rules | `(tactic| walk_at "call ref") => `(tactic| ((with_reducible show wpAny _ _ (call (Value.ref _) _) _ _ _); k_dflt ((show wpAny _ _ (call (Value.ref 87) [Value.int _ _, Value.int _ _, Value.int _ _, Value.int _ _, Value.int _ _]) _ _ _); (refine' Tells.use ?k1 ?k2 ?k3 ?k4 ?k5 ?kK (to_jd_mayan_tells _ _ _ _ _ _ _ _ _ _ _ _ _ _ _ ?kp) ?kd ?ku ?_); (case k1 => k_asm); (case k2 => k_asm); (case k3 => k_asm); (case k4 => k_asm); (case k5 => k_asm); (case kK => first | exact rfl | assumption); (case kd => first | exact Nat.le_of_ble_eq_true rfl | ktr_room); (case ku => first | exact Nat.le_of_ble_eq_true rfl | ktr_units); (case kp => omega); intro t9 h9 tk9 F9 N9); (try dsimp only); (try k_fold)))
local macro_rules | `(tactic| walk_at "call ref") => `(tactic| ((with_reducible show wpAny _ _ (call (Value.ref _) _) _ _ _); k_dflt ((show wpAny _ _ (call (Value.ref 94) [Value.float (hf (2 * _ + 1168565)) _]) _ _ _); (refine' Tells.use ?k1 ?k2 ?k3 ?k4 ?k5 ?kK (from_jd_mayan_tells _ _ _ _ _ _ _ ?kp) ?kd ?ku ?_); (case k1 => k_asm); (case k2 => k_asm); (case k3 => k_asm); (case k4 => k_asm); (case k5 => k_asm); (case kK => first | exact rfl | assumption); (case kd => first | exact Nat.le_of_ble_eq_true rfl | ktr_room); (case ku => first | exact Nat.le_of_ble_eq_true rfl | ktr_units); (case kp => omega); intro D9 ta9 tb9 tc9 td9 te9 c9 h9 tk9 F9 N9 l9); (try dsimp only); (try k_fold)))
local macro_rules | `(tactic| walk_at "call ref") => `(tactic| ((with_reducible show wpAny _ _ (call (Value.ref _) _) _ _ _); k_dflt ((show wpAny _ _ (call (Value.ref 78) [Value.float (hf (2 * _ + 1168565)) _]) _ _ _); (refine' Tells.use ?k1 ?k2 ?k3 ?k4 ?k5 ?kK (from_jd_greg_T _ _ _ _ _ _ _ ?kp) ?kd ?ku ?_); (case k1 => k_asm); (case k2 => k_asm); (case k3 => k_asm); (case k4 => k_asm); (case k5 => k_asm); (case kK => first | exact rfl | assumption); (case kd => first | exact Nat.le_of_ble_eq_true rfl | ktr_room); (case ku => first | exact Nat.le_of_ble_eq_true rfl | ktr_units); (case kp => omega); intro D9 ta9 tb9 tc9 c9 h9 tk9 F9 N9 l9); (try dsimp only); (try k_fold)))
local macro_rules | `(tactic| walk_at "call ref") => `(tactic| ((with_reducible show wpAny _ _ (call (Value.ref _) _) _ _ _); k_dflt ((show wpAny _ _ (call (Value.ref 101) [Value.int _ _, Value.int _ _, Value.int _ _, Value.int _ _, Value.int _ _]) _ _ _); (refine' Tells.use ?k1 ?k2 ?k3 ?k4 ?k5 ?kK (to_gregorian_S _ _ _ _ _ _ _ _ _ _ _ _ _ _ _ ?kp) ?kd ?ku ?_); (case k1 => k_asm); (case k2 => k_asm); (case k3 => k_asm); (case k4 => k_asm); (case k5 => k_asm); (case kK => first | exact rfl | assumption); (case kd => first | exact Nat.le_of_ble_eq_true rfl | ktr_room); (case ku => first | exact Nat.le_of_ble_eq_true rfl | ktr_units); (case kp => omega); intro D9 ta9 tb9 tc9 c9 h9 tk9 F9 N9 l9); (try dsimp only); (try k_fold)))
local macro_rules | `(tactic| walk_at "call ref") => `(tactic| ((with_reducible show wpAny _ _ (call (Value.ref _) _) _ _ _); k_dflt ((show wpAny _ _ (call (Value.ref 108) [Value.int (gYear _) _, Value.int (gMonth _) _, Value.int (gDay _) _]) _ _ _); (refine' Tells.use ?k1 ?k2 ?k3 ?k4 ?k5 ?kK (from_gregorian_tells _ _ _ _ _ _ _ _ _ ?kp) ?kd ?ku ?_); (case k1 => k_asm); (case k2 => k_asm); (case k3 => k_asm); (case k4 => k_asm); (case k5 => k_asm); (case kK => first | exact rfl | assumption); (case kd => first | exact Nat.le_of_ble_eq_true rfl | ktr_room); (case ku => first | exact Nat.le_of_ble_eq_true rfl | ktr_units); (case kp => omega); intro D9 ta9 tb9 tc9 td9 te9 c9 h9 tk9 F9 N9 l9); (try dsimp only); (try k_fold)))
local macro_rules | `(tactic| walk_at "call ref") => `(tactic| ((with_reducible show wpAny _ _ (call (Value.ref _) _) _ _ _); k_dflt ((show wpAny _ _ (call (Value.ref 157) [Value.float (hf (2 * _ + 1168565)) _]) _ _ _); (refine' Tells.use ?k1 ?k2 ?k3 ?k4 ?k5 ?kK (law_day_tells _ _ _ _ _ _ _ ?kp) ?kd ?ku ?_); (case k1 => k_asm); (case k2 => k_asm); (case k3 => k_asm); (case k4 => k_asm); (case k5 => k_asm); (case kK => first | exact rfl | assumption); (case kd => first | exact Nat.le_of_ble_eq_true rfl | ktr_room); (case ku => first | exact Nat.le_of_ble_eq_true rfl | ktr_units); (case kp => omega); intro t9 h9 tk9 F9 N9); (try dsimp only); (try k_fold)))
local macro_rules | `(tactic| walk_at "call ref") => `(tactic| ((with_reducible show wpAny _ _ (call (Value.ref _) _) _ _ _); k_dflt ((show wpAny _ _ (call (Value.ref 185) [Value.int _ _, Value.int _ _, Value.int _ _, Value.int _ _, Value.int _ _, Value.int _ _]) _ _ _); (refine' Tells.use ?k1 ?k2 ?k3 ?k4 ?k5 ?kK (law_rounds_tells _ _ _ _ _ _ _ _ _ _ _ _ _ _ _ _ _ ?kp) ?kd ?ku ?_); (case k1 => k_asm); (case k2 => k_asm); (case k3 => k_asm); (case k4 => k_asm); (case k5 => k_asm); (case kK => first | exact rfl | assumption); (case kd => first | exact Nat.le_of_ble_eq_true rfl | ktr_room); (case ku => first | exact Nat.le_of_ble_eq_true rfl | ktr_units); (case kp => omega); intro h9 tk9 F9 N9); (try dsimp only); (try k_fold)))

theorem holds : PySem.Challenge.rw_ba5010_01.Holds := hd (by
  k_go0
  all_goals try k_fold
  repeat (first | (k_unfold; (try dsimp only)) | (k_end; wrow_close) | walk1 | (dsimp only; walk1) | (leave1; walk_say "STEP leave1"; try dsimp only)))

end Mine

theorem PySem.Challenge.cw_ba5010_01_holds : PySem.Challenge.rw_ba5010_01.Holds :=
  Mine.holds
