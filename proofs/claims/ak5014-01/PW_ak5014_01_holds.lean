import PyProof.Rows.All
import Flt.RightMore
import Flt.Calls
import Wide.All
import OpenK.AllK
import OpenK.KExp
import Wide.FinOn
import PySem.Challenge.RW_ak5014_01
set_option Elab.async false
section
set_option maxRecDepth 10000
namespace Mine
open PySem PySem.Float64

theorem V_inj {t t' : Nat} (h : V t = V t') : t = t' := by
  rcases Nat.lt_trichotomy t t' with h1 | h1 | h1
  · have := V_lt h1; omega
  · exact h1
  · have := V_lt h1; omega

/-- n * 2^c is a float's magnitude -/
theorem exists_rep {n c : Nat} (hn : n < 2 ^ 53) (hc : 52 ≤ c) (hc2 : c ≤ 1900) : ∃ t, t < infMag ∧ V t = n * 2 ^ c := by
  by_cases h0 : n = 0
  · exact ⟨0, by decide, by rw [V_zero, h0]; omega⟩
  · have h1 := Nat.log2_self_le h0
    have h2 := @Nat.lt_log2_self n
    have hL : n.log2 ≤ 52 := by
      have := (Nat.log2_lt h0).mpr hn
      omega
    generalize n.log2 = L at *
    have e1 : 2 ^ L * 2 ^ (52 - L) = 2 ^ 52 := by rw [← Nat.pow_add]; congr 1; omega
    have e2 : 2 ^ (L + 1) * 2 ^ (52 - L) = 2 ^ 53 := by rw [← Nat.pow_add]; congr 1; omega
    have hlo : 2 ^ 52 ≤ n * 2 ^ (52 - L) := by rw [← e1]; exact Nat.mul_le_mul_right _ h1
    have hhi : n * 2 ^ (52 - L) < 2 ^ 53 := by rw [← e2]; exact Nat.mul_lt_mul_of_pos_right h2 (Nat.two_pow_pos _)
    refine ⟨(c - (52 - L)) * 2 ^ 52 + n * 2 ^ (52 - L), ?_, ?_⟩
    · have : infMag = 2047 * 2 ^ 52 := rfl
      rw [this]
      omega
    · rw [V_at (by omega) (.inl hlo), Nat.mul_assoc, ← Nat.pow_add]
      congr 2
      omega

/-- a small bound of the exact value: the rounded one is finite -/
theorem right_fin {r : UInt64} {neg : Bool} {W D : Nat} (h : Right r neg W D) (hB : W ≤ D * 2 ^ 1200) (hD : 0 < D) :
    ∃ t, r = pack neg t ∧ t < infMag ∧ ∀ t', dist W (D * V t) ≤ dist W (D * V t') := by
  obtain ⟨t, hr, hle, hinf, hmin⟩ := h
  have hlt : t < infMag := by
    rcases Nat.lt_or_ge t infMag with h | h
    · exact h
    · exfalso
      have h1 := hinf.mp (by omega)
      have h2 : 2 * 2 ^ 1200 < (2 ^ 54 - 1) * 2 ^ 2045 := by
        have e : (2 : Nat) ^ 2045 = 2 ^ 1200 * 2 ^ 845 := by rw [← Nat.pow_add]
        have h5 : 1 ≤ (2 : Nat) ^ 845 := Nat.one_le_two_pow
        have h6 : 1 ≤ (2 : Nat) ^ 1200 := Nat.one_le_two_pow
        rw [e]
        generalize (2 : Nat) ^ 845 = a at *
        generalize (2 : Nat) ^ 1200 = b at *
        have h7 : b * 1 ≤ b * a := Nat.mul_le_mul_left b h5
        omega
      have h3 : D * (2 * 2 ^ 1200) < D * ((2 ^ 54 - 1) * 2 ^ 2045) := Nat.mul_lt_mul_of_pos_left h2 hD
      have h4 : D * (2 * 2 ^ 1200) = 2 * (D * 2 ^ 1200) := by ac_rfl
      omega
  exact ⟨t, hr, hlt, fun t' => (hmin hlt t').1⟩

theorem rnd_ge {t t' W D : Nat} (hD : 0 < D) (hm : dist W (D * V t) ≤ dist W (D * V t')) (h : D * V t' ≤ W) : V t' ≤ V t := by
  rcases Nat.lt_or_ge (V t) (V t') with h1 | h1
  · have h3 : D * V t < D * V t' := Nat.mul_lt_mul_of_pos_left h1 hD
    unfold dist at hm
    omega
  · exact h1
theorem rnd_le {t t' W D : Nat} (hD : 0 < D) (hm : dist W (D * V t) ≤ dist W (D * V t')) (h : W ≤ D * V t') : V t ≤ V t' := by
  rcases Nat.lt_or_ge (V t') (V t) with h1 | h1
  · have h3 : D * V t' < D * V t := Nat.mul_lt_mul_of_pos_left h1 hD
    unfold dist at hm
    omega
  · exact h1

/-- exact: the value is itself a float's -/
theorem right_exact {r : UInt64} {neg : Bool} {W D t : Nat} (h : Right r neg W D) (hD : 0 < D) (hB : V t ≤ 2 ^ 1200) (hW : W = D * V t) : r = pack neg t := by
  obtain ⟨t0, hr, hlt, hm⟩ := right_fin h (by rw [hW]; exact Nat.mul_le_mul_left D hB) hD
  have h1 := rnd_ge hD (hm t) (by omega)
  have h2 := rnd_le hD (hm t) (by omega)
  rw [hr, V_inj (Nat.le_antisymm h2 h1)]

/-- the float nearest to k / 2 -/
def hf (k : Int) : UInt64 := ofFrac (decide (k < 0)) k.natAbs 2

theorem hf_right (k : Int) : Right (hf k) (decide (k < 0)) (k.natAbs * 2 ^ 1073) 1 :=
  ofFrac_right (by decide) (by rw [Nat.mul_one, Nat.mul_assoc, ← Nat.pow_succ]) (by decide)

theorem small_pow {n : Nat} (h : n < 2 ^ 53) {c : Nat} (hc : c ≤ 1140) : n * 2 ^ c ≤ 2 ^ 1200 := by
  have h1 : n * 2 ^ c ≤ 2 ^ 53 * 2 ^ c := Nat.mul_le_mul_right _ (by omega)
  have h2 : (2 : Nat) ^ 53 * 2 ^ c ≤ 2 ^ 1200 := by rw [← Nat.pow_add]; exact Nat.pow_le_pow_right (by decide) (by omega)
  exact Nat.le_trans h1 h2

theorem right_hf {r : UInt64} {k : Int} {W D : Nat} (hk : k.natAbs < 2 ^ 53) (h : Right r (decide (k < 0)) W D) (hD : 0 < D) (hW : W = D * (k.natAbs * 2 ^ 1073)) : r = hf k := by
  obtain ⟨t, ht, hV⟩ := exists_rep (c := 1073) hk (by decide) (by decide)
  have hB := small_pow hk (c := 1073) (by decide)
  rw [right_exact h hD (t := t) (by rw [hV]; exact hB) (by rw [hV]; exact hW)]
  rw [right_exact (hf_right k) (by decide) (t := t) (by rw [hV]; exact hB) (by rw [hV, Nat.one_mul])]

theorem hf_decode {k : Int} (hk : k.natAbs < 2 ^ 53) : ∃ m e, decode (hf k) = .fin (decide (k < 0)) m e ∧ val (hf k) = k * 2 ^ 1073 := by
  obtain ⟨t, ht, hV⟩ := exists_rep (c := 1073) hk (by decide) (by decide)
  have hB := small_pow hk (c := 1073) (by decide)
  have e := right_exact (hf_right k) (by decide) (t := t) (by rw [hV]; exact hB) (by rw [hV, Nat.one_mul])
  obtain ⟨m, f, hd, hv⟩ := decode_pack (decide (k < 0)) ht
  refine ⟨m, f, by rw [e]; exact hd, ?_⟩
  rw [e, val_pack _ ht, hV]
  unfold sgn
  by_cases h : k < 0
  · simp only [h, decide_true, if_true]
    rw [Int.natCast_mul, ← Int.neg_mul]
    have : -(k.natAbs : Int) = k := by omega
    rw [this]; simp
  · simp only [h, decide_false, Bool.false_eq_true, if_false]
    rw [Int.natCast_mul]
    have : (k.natAbs : Int) = k := by omega
    rw [this]; simp

theorem ofInt_hf {n : Int} (h : n.natAbs < 2 ^ 52) : ofInt n = hf (2 * n) := by
  have hd : decide (n < 0) = decide (2 * n < 0) := decide_eq_decide.mpr (by omega)
  refine right_hf (by omega) (hd ▸ ofInt_right n) (by decide) ?_
  have : (2 * n).natAbs = n.natAbs * 2 := by omega
  rw [this, Nat.one_mul, Nat.mul_assoc, ← Nat.pow_succ']

theorem pow1073_pos : (0 : Int) < 2 ^ 1073 := Int.pow_pos (by decide)
theorem natAbs_pow (k : Int) : (k * 2 ^ 1073).natAbs = k.natAbs * 2 ^ 1073 := by
  rw [Int.natAbs_mul, Int.natAbs_pow]; rfl
theorem mulpos_lt {k : Int} : (k * 2 ^ 1073 < 0) = (k < 0) := by
  apply propext
  have hp := pow1073_pos
  generalize (2 : Int) ^ 1073 = P at *
  constructor
  · intro h
    by_cases h2 : k < 0
    · exact h2
    · have := Int.mul_nonneg (show 0 ≤ k by omega) (Int.le_of_lt hp); omega
  · intro h; exact Int.mul_neg_of_neg_of_pos h hp
theorem mulpos_eq {k : Int} : k * 2 ^ 1073 = 0 ↔ k = 0 := by
  have hp := pow1073_pos
  generalize (2 : Int) ^ 1073 = P at *
  constructor
  · intro h
    rcases Int.mul_eq_zero.mp h with h | h
    · exact h
    · omega
  · intro h; rw [h, Int.zero_mul]
theorem hf_zero : hf 0 = zero false := by decide +kernel

theorem sub_hf {a b : Int} (ha : a.natAbs < 2 ^ 53) (hb : b.natAbs < 2 ^ 53) (hab : (a - b).natAbs < 2 ^ 53) : sub (hf a) (hf b) = hf (a - b) := by
  obtain ⟨m, e, hda, hva⟩ := hf_decode ha
  obtain ⟨k, f, hdb, hvb⟩ := hf_decode hb
  have h := sub_right hda hdb
  rw [hva, hvb, ← Int.sub_mul] at h
  by_cases h0 : a - b = 0
  · rw [h.1 (by rw [h0, Int.zero_mul]), h0, hf_zero]
    have : (decide (a < 0) && !decide (b < 0)) = false := by
      have : a = b := by omega
      subst this
      cases decide (a < 0) <;> rfl
    rw [this]
  · have h2 := h.2 (fun c => h0 (mulpos_eq.mp c))
    rw [natAbs_pow] at h2
    simp only [mulpos_lt] at h2
    exact right_hf hab h2 (by decide) (by rw [Nat.one_mul])
theorem add_hf {a b : Int} (ha : a.natAbs < 2 ^ 53) (hb : b.natAbs < 2 ^ 53) (hab : (a + b).natAbs < 2 ^ 53) (hs : 0 ≤ a ∨ 0 ≤ b) : add (hf a) (hf b) = hf (a + b) := by
  obtain ⟨m, e, hda, hva⟩ := hf_decode ha
  obtain ⟨k, f, hdb, hvb⟩ := hf_decode hb
  have h := add_right hda hdb
  rw [hva, hvb, ← Int.add_mul] at h
  by_cases h0 : a + b = 0
  · rw [h.1 (by rw [h0, Int.zero_mul]), h0, hf_zero]
    have : (decide (a < 0) && decide (b < 0)) = false := by
      rcases hs with h | h
      · rw [decide_eq_false (by omega)]; rfl
      · rw [decide_eq_false (p := b < 0) (by omega)]; simp
    rw [this]
  · have h2 := h.2 (fun c => h0 (mulpos_eq.mp c))
    rw [natAbs_pow] at h2
    simp only [mulpos_lt] at h2
    exact right_hf hab h2 (by decide) (by rw [Nat.one_mul])

theorem compare_scale {p q K : Int} (hK : 0 < K) : compare (p * K) (q * K) = compare p q := by
  rcases Int.lt_trichotomy p q with h | h | h
  · rw [Int.compare_eq_lt.mpr h, Int.compare_eq_lt.mpr (Int.mul_lt_mul_of_pos_right h hK)]
  · subst h; simp
  · rw [Int.compare_eq_gt.mpr h, Int.compare_eq_gt.mpr (Int.mul_lt_mul_of_pos_right h hK)]
theorem cmp_hf {a b : Int} (ha : a.natAbs < 2 ^ 53) (hb : b.natAbs < 2 ^ 53) : cmp (hf a) (hf b) = some (compare a b) := by
  obtain ⟨m, e, hda, hva⟩ := hf_decode ha
  obtain ⟨k, f, hdb, hvb⟩ := hf_decode hb
  rw [cmp_right hda hdb, hva, hvb, compare_scale pow1073_pos]
theorem cmpInt_hf {a : Int} (n : Int) (ha : a.natAbs < 2 ^ 53) : cmpInt (hf a) n = some (compare a (2 * n)) := by
  obtain ⟨m, e, hda, hva⟩ := hf_decode ha
  rw [cmpInt_right hda, hva]
  have : n * 2 ^ 1074 = 2 * n * 2 ^ 1073 := by
    rw [Int.pow_succ (2 : Int) 1073]
    generalize (2 : Int) ^ 1073 = P
    rw [Int.mul_comm 2 n, Int.mul_assoc, Int.mul_comm P 2]
  rw [this, compare_scale pow1073_pos]

theorem floor_val {x : UInt64} {s : Bool} {m : Nat} {e q : Int} (hd : decode x = .fin s m e) (h1 : q * 2 ^ 1074 ≤ val x) (h2 : val x < (q + 1) * 2 ^ 1074) : floorOf s m e = q := by
  have he := decode_ge hd
  have hv : val x = sgn s m * ((2 ^ (e + 1074).toNat : Nat) : Int) := by rw [val_eq hd, sgn_mul]
  have hpos : ∀ n : Nat, (0 : Int) < (2 : Int) ^ n := fun n => Int.pow_pos (by decide)
  have hcast : ((2 ^ (e + 1074).toNat : Nat) : Int) = (2 : Int) ^ (e + 1074).toNat := by simp
  rw [hv, hcast] at h1 h2
  unfold floorOf
  generalize sgn s m = z at *
  split
  · rename_i h0
    have e1 : (e + 1074).toNat = e.toNat + 1074 := by omega
    rw [e1, Int.pow_add, ← Int.mul_assoc] at h1 h2
    generalize z * 2 ^ e.toNat = y at *
    have hP := hpos 1074
    generalize (2 : Int) ^ 1074 = P at *
    have a1 := Int.le_of_mul_le_mul_right h1 hP
    have a2 := Int.lt_of_mul_lt_mul_right h2 (Int.le_of_lt hP)
    omega
  · rename_i h0
    have e1 : (2 : Int) ^ 1074 = 2 ^ (-e).toNat * 2 ^ (e + 1074).toNat := by rw [← Int.pow_add]; congr 1; omega
    rw [e1, ← Int.mul_assoc] at h1 h2
    have hP := hpos (e + 1074).toNat
    have hQ := hpos (-e).toNat
    generalize (2 : Int) ^ (e + 1074).toNat = P at *
    generalize (2 : Int) ^ (-e).toNat = D at *
    have a1 := Int.le_of_mul_le_mul_right h1 hP
    have a2 := Int.lt_of_mul_lt_mul_right h2 (Int.le_of_lt hP)
    rw [Int.fdiv_eq_ediv_of_nonneg _ (Int.le_of_lt hQ)]
    have b1 := (Int.le_ediv_iff_mul_le hQ).mpr a1
    have b2 := (Int.ediv_lt_iff_lt_mul hQ).mpr a2
    omega

theorem floor_between {r : UInt64} {W D q n2 : Nat} (h : Right r false W D) (hD : 0 < D) (hq : q < 2 ^ 30)
    (lo : D * (q * 2 ^ 1074) ≤ W) (hi : W ≤ D * (n2 * 2 ^ 1054)) (hn2 : n2 < (q + 1) * 2 ^ 20) :
    ∃ m e, decode r = .fin false m e ∧ floorOf false m e = (q : Nat) := by
  obtain ⟨t1, ht1, hV1⟩ := exists_rep (n := q) (c := 1074) (by omega) (by decide) (by decide)
  obtain ⟨t2, ht2, hV2⟩ := exists_rep (n := n2) (c := 1054) (by omega) (by decide) (by decide)
  have hn53 : n2 < 2 ^ 53 := by omega
  obtain ⟨t, hr, hlt, hm⟩ := right_fin h (Nat.le_trans hi (Nat.mul_le_mul_left D (small_pow hn53 (c := 1054) (by decide)))) hD
  have g1 := rnd_ge hD (hm t1) (by rw [hV1]; exact lo)
  have g2 := rnd_le hD (hm t2) (by rw [hV2]; exact hi)
  rw [hV1] at g1
  rw [hV2] at g2
  obtain ⟨m, e, hd, hv⟩ := decode_pack false hlt
  have hval : val r = (V t : Int) := by rw [hr, val_pack _ hlt]; rfl
  have hd' : decode r = .fin false m e := by rw [hr]; exact hd
  refine ⟨m, e, hd', floor_val hd' ?_ ?_⟩
  · rw [hval]
    have : ((q * 2 ^ 1074 : Nat) : Int) ≤ (V t : Int) := Int.ofNat_le.mpr g1
    simpa using this
  · rw [hval]
    have g3 : n2 * 2 ^ 1054 < (q + 1) * 2 ^ 1074 := by
      have e1 : (2 : Nat) ^ 1074 = 2 ^ 20 * 2 ^ 1054 := by rw [← Nat.pow_add]
      rw [e1, ← Nat.mul_assoc]
      exact Nat.mul_lt_mul_of_pos_right hn2 (Nat.two_pow_pos _)
    have : ((V t : Nat) : Int) < (((q + 1) * 2 ^ 1074 : Nat) : Int) := Int.ofNat_lt.mpr (Nat.lt_of_le_of_lt g2 g3)
    simpa using this

/-- the floor of a rounded quotient -/
theorem floor_rnd {r : UInt64} {p d c : Nat} (h : Right r false (p * 2 ^ 1074 * c) (d * c)) (hd : 0 < d) (hc : 0 < c) (hd2 : d ≤ 2 ^ 20) (hp : p < d * 2 ^ 30) :
    ∃ m e, decode r = .fin false m e ∧ floorOf false m e = ((p / d : Nat) : Int) := by
  have hq : p / d < 2 ^ 30 := (Nat.div_lt_iff_lt_mul hd).mpr (by rw [Nat.mul_comm]; exact hp)
  have h1 : d * (p / d) ≤ p := Nat.mul_div_le p d
  have h2 : p < d * (p / d + 1) := by rw [Nat.mul_add]; have := Nat.div_add_mod p d; have := Nat.mod_lt p hd; omega
  generalize p / d = q at *
  refine floor_between (n2 := (q + 1) * 2 ^ 20 - 1) h (Nat.mul_pos hd hc) hq ?_ ?_ (by omega)
  · have e1 : d * c * (q * 2 ^ 1074) = d * q * (2 ^ 1074 * c) := by ac_rfl
    have e2 : p * 2 ^ 1074 * c = p * (2 ^ 1074 * c) := by ac_rfl
    rw [e1, e2]
    exact Nat.mul_le_mul_right _ h1
  · have e0 : (2 : Nat) ^ 1074 = 2 ^ 20 * 2 ^ 1054 := by rw [← Nat.pow_add]
    rw [e0]
    have e1 : d * c * (((q + 1) * 2 ^ 20 - 1) * 2 ^ 1054) = (d * ((q + 1) * 2 ^ 20 - 1)) * (2 ^ 1054 * c) := by ac_rfl
    have e2 : p * (2 ^ 20 * 2 ^ 1054) * c = (p * 2 ^ 20) * (2 ^ 1054 * c) := by ac_rfl
    rw [e1, e2]
    refine Nat.mul_le_mul_right _ ?_
    rw [Nat.mul_sub, ← Nat.mul_assoc, Nat.mul_one]
    generalize d * (q + 1) = z at *
    omega
end Mine
end
section
set_option maxRecDepth 100000
namespace Mine
open PySem PySem.Float64 PySem.Flt

abbrev c365 : UInt64 := 0x4076d40000000000
abbrev c122 : UInt64 := 0x405e866666666666
abbrev c306 : UInt64 := 0x403e99a027525461

/-- finite, not below nought, and its whole part -/
structure Whole (x : UInt64) (v : Int) : Prop where
  fin : isFinite x = true
  fl : toInt floorOf x = v
  tr : toInt truncOf x = v
theorem whole_of {x : UInt64} {m : Nat} {e v : Int} (hd : decode x = .fin false m e) (hf : floorOf false m e = v) : Whole x v :=
  ⟨by unfold isFinite; rw [hd], by rw [toInt_fin hd]; exact hf, by rw [toInt_fin hd]; show (if false = true then _ else _) = v; rw [if_neg (by decide)]; exact hf⟩
theorem whole_rnd {r : UInt64} {p d c : Nat} {v : Int} (h : Right r false (p * 2 ^ 1074 * c) (d * c)) (hd : 0 < d) (hc : 0 < c) (hd2 : d ≤ 2 ^ 20) (hp : p < d * 2 ^ 30) (hv : v = ((p / d : Nat) : Int)) : Whole r v := by
  obtain ⟨m, e, h1, h2⟩ := floor_rnd h hd hc hd2 hp
  exact whole_of h1 (h2.trans hv.symm)

theorem dec_false {k : Int} (h : 0 ≤ k) : decide (k < 0) = false := decide_eq_false (by omega)
theorem whole_hf {k : Int} (h0 : 0 ≤ k) (h1 : k < 2 ^ 31) : Whole (hf k) (k / 2) := by
  have h : Right (hf k) (decide (k < 0)) (k.natAbs * 2 ^ 1074) 2 := ofFrac_right (by decide) rfl (by decide)
  rw [dec_false h0] at h
  exact whole_rnd (p := k.natAbs) (d := 2) (c := 1) (by simpa using h) (by decide) (by decide) (by decide) (by omega) (by omega)

theorem dec365 : decode c365 = .fin false 6425545952722944 (-44) := by with_unfolding_all rfl
theorem val365 : (val c365).natAbs = 1461 * 2 ^ 1072 := by
  rw [val_natAbs dec365]; decide +kernel
theorem hf_val {k : Int} (h0 : 0 ≤ k) (h1 : k < 2 ^ 53) : ∃ m e, decode (hf k) = .fin false m e ∧ (val (hf k)).natAbs = k.natAbs * 2 ^ 1073 := by
  obtain ⟨m, e, hd, hv⟩ := hf_decode (k := k) (by omega)
  rw [dec_false h0] at hd
  exact ⟨m, e, hd, by rw [hv, natAbs_pow]⟩

theorem whole_div365 {k : Int} (h0 : 0 ≤ k) (h1 : k < 2 ^ 29) : Whole (div (hf k) c365) (2 * k / 1461) := by
  obtain ⟨m, e, hd, hv⟩ := hf_val h0 (by omega)
  have h := div_right hd dec365 (by decide)
  rw [hv, val365] at h
  have hk : (2 * k.natAbs : Nat) = (2 * k).natAbs := by omega
  refine whole_rnd (p := 2 * k.natAbs) (d := 1461) (c := 2 ^ 1072) ?_ (by decide) (Nat.two_pow_pos _) (by decide) (by omega) (by omega)
  have e1 : 2 * k.natAbs * 2 ^ 1074 * 2 ^ 1072 = k.natAbs * 2 ^ 1073 * 2 ^ 1074 := by
    have : (2 : Nat) ^ 1073 = 2 * 2 ^ 1072 := by rw [Nat.pow_succ, Nat.mul_comm]
    rw [this]; ac_rfl
  rw [e1]
  exact h

theorem whole_div_int {k c : Int} (h0 : 0 ≤ k) (h1 : k < 2 ^ 29) (hc0 : 0 < c) (hc1 : c < 2 ^ 19) : Whole (div (hf k) (ofInt c)) (k / (2 * c)) := by
  rw [ofInt_hf (by omega)]
  obtain ⟨m, e, hd, hv⟩ := hf_val h0 (by omega)
  obtain ⟨m', e', hd', hv'⟩ := hf_val (k := 2 * c) (by omega) (by omega)
  have hm : m' ≠ 0 := by
    intro h
    subst h
    rw [val_natAbs hd'] at hv'
    have := Nat.two_pow_pos 1073
    have h2 : 0 < (2 * c).natAbs * 2 ^ 1073 := Nat.mul_pos (by omega) this
    omega
  have h := div_right hd hd' hm
  rw [hv, hv'] at h
  refine whole_rnd (p := k.natAbs) (d := (2 * c).natAbs) (c := 2 ^ 1073) ?_ (by omega) (Nat.two_pow_pos _) (by omega) (by omega) ?_
  · have e1 : k.natAbs * 2 ^ 1074 * 2 ^ 1073 = k.natAbs * 2 ^ 1073 * 2 ^ 1074 := by ac_rfl
    rw [e1]
    exact h
  · rw [Int.natCast_ediv]
    have a1 : (k.natAbs : Int) = k := by omega
    have a2 : ((2 * c).natAbs : Int) = 2 * c := by omega
    rw [a1, a2]

theorem whole_frac {a b : Int} (h0 : 0 ≤ a) (h1 : a < 2 ^ 29) (hb0 : 0 < b) (hb1 : b < 2 ^ 20) : Whole (ofFrac (decide (a < 0) != decide (b < 0)) a.natAbs b.natAbs) (a / b) := by
  rw [dec_false h0, dec_false (Int.le_of_lt hb0)]
  have h : Right (ofFrac false a.natAbs b.natAbs) false (a.natAbs * 2 ^ 1074) b.natAbs := ofFrac_right (by omega) rfl (by omega)
  refine whole_rnd (p := a.natAbs) (d := b.natAbs) (c := 1) (by simpa using h) (by omega) (by decide) (by omega) (by omega) ?_
  rw [Int.natCast_ediv]
  have a1 : (a.natAbs : Int) = a := by omega
  have a2 : (b.natAbs : Int) = b := by omega
  rw [a1, a2]

theorem whole_mul365 {c : Int} (h0 : 0 ≤ c) (h1 : c < 2 ^ 20) : Whole (mul c365 (ofInt c)) (1461 * c / 4) := by
  rw [ofInt_hf (by omega)]
  obtain ⟨m, e, hd, hv⟩ := hf_val (k := 2 * c) (by omega) (by omega)
  have h := mul_right dec365 hd
  rw [hv, val365] at h
  refine whole_rnd (p := 1461 * c.natAbs) (d := 4) (c := 2 ^ 1072) ?_ (by decide) (Nat.two_pow_pos _) (by decide) (by omega) (by omega)
  have e1 : (2 : Nat) ^ 1073 = 2 * 2 ^ 1072 := by rw [Nat.pow_succ, Nat.mul_comm]
  have e2 : (2 : Nat) ^ 1074 = 4 * 2 ^ 1072 := by rw [Nat.pow_succ, e1]; generalize (2 : Nat) ^ 1072 = P; omega
  have e3 : (2 * c).natAbs = 2 * c.natAbs := by omega
  have e4 : 1461 * c.natAbs * 2 ^ 1074 * 2 ^ 1072 = 1461 * 2 ^ 1072 * ((2 * c).natAbs * 2 ^ 1073) := by
    rw [e1, e2, e3]
    generalize (2 : Nat) ^ 1072 = P
    generalize c.natAbs = z
    have : 1461 * z * (4 * P) * P = 4 * (1461 * z * P * P) := by ac_rfl
    rw [this]
    have : 1461 * P * (2 * z * (2 * P)) = 2 * (2 * (1461 * z * P * P)) := by ac_rfl
    rw [this]; omega
  rw [e4]
  rw [e2] at h
  exact h

theorem dec122 : decode c122 = .fin false 8592023664092774 (-46) := by with_unfolding_all rfl
theorem val122 : val c122 = 8592023664092774 * 2 ^ 1028 := by
  rw [val_eq dec122]; decide +kernel
theorem right_int {n : Int} (h0 : 0 ≤ n) (h1 : n < 2 ^ 52) : ∃ m e, decode (ofInt n) = .fin false m e ∧ val (ofInt n) = n * 2 ^ 1074 := by
  rw [ofInt_hf (by omega)]
  obtain ⟨m, e, hd, hv⟩ := hf_decode (k := 2 * n) (by omega)
  rw [dec_false (by omega)] at hd
  refine ⟨m, e, hd, ?_⟩
  rw [hv, Int.pow_succ (2 : Int) 1073]
  generalize (2 : Int) ^ 1073 = P
  rw [Int.mul_comm 2 n, Int.mul_assoc, Int.mul_comm P 2]

/-- b - 122.1, rounded, between two multiples of 2^-28 -/
theorem sub122 {b n w : Nat} (h1 : b < 2 ^ 24) (hn : n + 32775969178 = b * 268435456) (hw : w + 8592023664092774 = b * 70368744177664) : ∃ t, t < infMag ∧ sub (ofInt (b : Int)) c122 = pack false t ∧ n * 2 ^ 1046 ≤ V t ∧ V t ≤ (n + 1) * 2 ^ 1046 := by
  have z1 : n < 2 ^ 53 := by omega
  have z2 : n + 1 < 2 ^ 53 := by omega
  have z3 : w ≤ (n + 1) * 2 ^ 18 := by omega
  have z4 : n * 2 ^ 18 ≤ w := by omega
  have z5 : 0 < w := by omega
  have z6 : (b : Int) * 70368744177664 - 8592023664092774 = (w : Int) := by omega
  obtain ⟨m, e, hd, hv⟩ := right_int (n := (b : Int)) (by omega) (by omega)
  have h := (sub_right hd dec122).2
  have e1 : val (ofInt (b : Int)) - val c122 = ((w * 2 ^ 1028 : Nat) : Int) := by
    rw [hv, val122]
    have e2 : (2 : Int) ^ 1074 = 70368744177664 * 2 ^ 1028 := by
      have : (70368744177664 : Int) = 2 ^ 46 := by decide
      rw [this, ← Int.pow_add]
    rw [e2, ← Int.mul_assoc, ← Int.sub_mul, Int.natCast_mul, z6, Int.natCast_pow]
    rfl
  rw [e1] at h
  have hpos : 0 < w * 2 ^ 1028 := Nat.mul_pos z5 (Nat.two_pow_pos _)
  have h2 := h (fun c => Nat.lt_irrefl _ (Nat.lt_of_lt_of_eq hpos (Int.ofNat_inj.mp c)))
  rw [decide_eq_false (Int.not_lt.mpr (Int.natCast_nonneg _)), Int.natAbs_natCast] at h2
  obtain ⟨t1, ht1, hV1⟩ := exists_rep (n := n) (c := 1046) z1 (by decide) (by decide)
  obtain ⟨t2, ht2, hV2⟩ := exists_rep (n := n + 1) (c := 1046) z2 (by decide) (by decide)
  have eP : (2 : Nat) ^ 1046 = 2 ^ 18 * 2 ^ 1028 := by rw [← Nat.pow_add]
  have hup : w * 2 ^ 1028 ≤ 1 * V t2 := by
    rw [hV2, eP, Nat.one_mul, ← Nat.mul_assoc]
    exact Nat.mul_le_mul_right _ z3
  have hlo : 1 * V t1 ≤ w * 2 ^ 1028 := by
    rw [hV1, eP, Nat.one_mul, ← Nat.mul_assoc]
    exact Nat.mul_le_mul_right _ z4
  obtain ⟨t, hr, hlt, hm⟩ := right_fin h2 (Nat.le_trans hup (Nat.mul_le_mul_left 1 (by rw [hV2]; exact small_pow z2 (by decide)))) (by decide)
  refine ⟨t, hlt, hr, ?_, ?_⟩
  · rw [← hV1]; exact rnd_ge (by decide) (hm t1) hlo
  · rw [← hV2]; exact rnd_le (by decide) (hm t2) hup

theorem whole_jc {b : Int} (h0 : 1524 ≤ b) (h1 : b < 2 ^ 24) : Whole (div (sub (ofInt b) c122) c365) ((20 * b - 2442) / 7305) := by
  obtain ⟨b, rfl⟩ := Int.eq_ofNat_of_zero_le (show 0 ≤ b by omega)
  obtain ⟨n, hn⟩ : ∃ n, n + 32775969178 = b * 268435456 := ⟨b * 268435456 - 32775969178, by omega⟩
  obtain ⟨w, hw⟩ : ∃ w, w + 8592023664092774 = b * 70368744177664 := ⟨b * 70368744177664 - 8592023664092774, by omega⟩
  obtain ⟨q, hq⟩ : ∃ q : Nat, (20 * (b : Int) - 2442) / 7305 = (q : Int) := Int.eq_ofNat_of_zero_le (by omega)
  rw [hq]
  have b1 : 7305 * q + 3 + 2442 ≤ 20 * b := by omega
  have b2 : 20 * b ≤ 7305 * (q + 1) + 2440 := by omega
  have y1 : 1461 * q * 2 ^ 26 ≤ n := by omega
  have y2 : (n + 1) * 2 ^ 20 ≤ 1461 * 2 ^ 26 * ((q + 1) * 2 ^ 20 - 1) := by
    rw [Nat.mul_sub]
    clear y1 hw
    omega
  have y3 : q < 2 ^ 30 := by omega
  have y4 : (q + 1) * 2 ^ 20 - 1 < (q + 1) * 2 ^ 20 := by omega
  obtain ⟨t, ht, hs, hlo, hhi⟩ := sub122 (b := b) (by omega) hn hw
  obtain ⟨m, e, hd, hv⟩ := decode_pack false ht
  rw [hs]
  have hval : (val (pack false t)).natAbs = V t := by rw [val_natAbs hd, hv]
  have h := div_right hd dec365 (by decide)
  rw [hval, val365] at h
  have e26 : (2 : Nat) ^ 1072 = 2 ^ 26 * 2 ^ 1046 := by rw [← Nat.pow_add]
  have e20 : (2 : Nat) ^ 1074 = 2 ^ 20 * 2 ^ 1054 := by rw [← Nat.pow_add]
  generalize hk : (q + 1) * 2 ^ 20 - 1 = k at *
  obtain ⟨m', e', g1, g2⟩ := floor_between (q := q) (n2 := k) h (Nat.mul_pos (by decide) (Nat.two_pow_pos _)) y3 (by
      have x1 : 1461 * 2 ^ 1072 * (q * 2 ^ 1074) = (1461 * q * 2 ^ 26) * 2 ^ 1046 * 2 ^ 1074 := by rw [e26]; ac_rfl
      rw [x1]
      exact Nat.mul_le_mul_right _ (Nat.le_trans (Nat.mul_le_mul_right _ y1) hlo)) (by
      have x1 : 1461 * 2 ^ 1072 * (k * 2 ^ 1054) = (1461 * 2 ^ 26 * k) * (2 ^ 1046 * 2 ^ 1054) := by rw [e26]; ac_rfl
      have x2 : V t * 2 ^ 1074 ≤ ((n + 1) * 2 ^ 20) * (2 ^ 1046 * 2 ^ 1054) := by
        rw [e20]
        have : (n + 1) * 2 ^ 20 * (2 ^ 1046 * 2 ^ 1054) = ((n + 1) * 2 ^ 1046) * (2 ^ 20 * 2 ^ 1054) := by ac_rfl
        rw [this]
        exact Nat.mul_le_mul_right _ hhi
      rw [x1]
      exact Nat.le_trans x2 (Nat.mul_le_mul_right _ y2)) y4
  exact whole_of g1 g2

def checkE (n : Nat) : Bool := match decode (div (ofInt (n : Int)) c306) with
  | .fin false m e => floorOf false m e == ((n * 10000 / 306001 : Nat) : Int)
  | _ => false
theorem checkE_all : (List.range 600).all checkE = true := by decide +kernel
theorem whole_e {b : Int} (h0 : 0 ≤ b) (h1 : b < 600) : Whole (div (ofInt b) c306) (b * 10000 / 306001) := by
  obtain ⟨n, rfl⟩ := Int.eq_ofNat_of_zero_le h0
  have h := List.all_eq_true.mp checkE_all n (List.mem_range.mpr (by omega))
  unfold checkE at h
  have e1 : (n : Int) * 10000 / 306001 = ((n * 10000 / 306001 : Nat) : Int) := by omega
  rw [e1]
  split at h
  · rename_i m e hd
    exact whole_of hd (by simpa using h)
  · cases h
def checkM (n : Nat) : Bool := match decode (mul c306 (ofInt (n : Int))) with
  | .fin false m e => floorOf false m e == ((n * 306001 / 10000 : Nat) : Int)
  | _ => false
theorem checkM_all : (List.range 30).all checkM = true := by decide +kernel
theorem whole_mul306 {b : Int} (h0 : 0 ≤ b) (h1 : b < 30) : Whole (mul c306 (ofInt b)) (b * 306001 / 10000) := by
  obtain ⟨n, rfl⟩ := Int.eq_ofNat_of_zero_le h0
  have h := List.all_eq_true.mp checkM_all n (List.mem_range.mpr (by omega))
  unfold checkM at h
  have e1 : (n : Int) * 306001 / 10000 = ((n * 306001 / 10000 : Nat) : Int) := by omega
  rw [e1]
  split at h
  · rename_i m e hd
    exact whole_of hd (by simpa using h)
  · cases h

theorem mod_hf {k : Int} (h0 : 0 ≤ k) (h1 : k < 2 ^ 53) : (divmod (hf k) (ofInt 365)).2 = hf (k % 730) := by
  rw [ofInt_hf (by decide)]
  show (divmod (hf k) (hf 730)).2 = _
  obtain ⟨m, e, hd, hv⟩ := hf_val h0 h1
  obtain ⟨m', e', hd', hv'⟩ := hf_val (k := 730) (by decide) (by decide)
  have he := decode_ge hd
  have he' := decode_ge hd'
  have hm : m' ≠ 0 := by
    intro h
    subst h
    rw [val_natAbs hd'] at hv'
    have := Nat.two_pow_pos 1073
    have h2 : 0 < (730 : Int).natAbs * 2 ^ 1073 := Nat.mul_pos (by decide) this
    omega
  rw [val_natAbs hd] at hv
  rw [val_natAbs hd'] at hv'
  have hf1 : fmod (hf k) (hf 730) = ofBin false (m * 2 ^ (e - min e e').toNat % (m' * 2 ^ (e' - min e e').toNat)) (min e e') := by
    unfold fmod
    rw [hd, hd']
    simp only
    rw [if_neg (by simpa using hm)]
    unfold align sgn
    simp only [Bool.false_eq_true, if_false, Int.toNat_natCast]
  have hR : Right (fmod (hf k) (hf 730)) (decide ((k % 730 : Int) < 0)) ((k % 730).natAbs * 2 ^ 1073) 1 := by
    rw [hf1, dec_false (by omega)]
    unfold ofBin
    show Right (ofFrac false (shift _ 1 _).1 (shift _ 1 _).2) _ _ _
    refine ofFrac_right (shift_pos _ _ _ (by decide)) ?_ (by decide)
    have h5 := shift_one (m * 2 ^ (e - min e e').toNat % (m' * 2 ^ (e' - min e e').toNat)) (min e e') 1074 (by omega)
    rw [Nat.mul_one, h5]
    congr 1
    have : (min e e' + ((1074 : Nat) : Int)).toNat = (min e e' + 1074).toNat := rfl
    rw [this, ← Nat.mul_mod_mul_right, Nat.mul_assoc, Nat.mul_assoc, ← Nat.pow_add, ← Nat.pow_add]
    have e1 : (e - min e e').toNat + (min e e' + 1074).toNat = (e + 1074).toNat := by omega
    have e2 : (e' - min e e').toNat + (min e e' + 1074).toNat = (e' + 1074).toNat := by omega
    rw [e1, e2, hv, hv', Nat.mul_mod_mul_right]
    congr 1
    have : Int.natAbs 730 = 730 := rfl
    rw [this]
    clear hv hv' h5 hf1
    omega
  have hF : fmod (hf k) (hf 730) = hf (k % 730) := right_hf (by omega) hR (by decide) (by rw [Nat.one_mul])
  unfold divmod
  simp only [hF]
  have hz : zero false = hf 0 := hf_zero.symm
  have l1 : lt (hf 730) (zero false) = false := by decide +kernel
  have l2 : lt (hf (k % 730)) (zero false) = false := by
    unfold lt
    rw [hz, cmp_hf (by omega) (by decide)]
    rcases Int.lt_trichotomy (k % 730) 0 with h | h | h
    · omega
    · rw [h]; rfl
    · rw [Int.compare_eq_gt.mpr h]; rfl
  rw [l1, l2]
  split
  · rename_i h
    have hr : k % 730 = 0 := by
      obtain ⟨m2, e2, hd2, hv2⟩ := hf_val (k := k % 730) (by omega) (by omega)
      rw [val_natAbs hd2] at hv2
      unfold isZero at h
      rw [hd2] at h
      split at h
      · rename_i heq
        cases heq
        have h5 : (k % 730).natAbs * 2 ^ 1073 = 0 := by omega
        rcases Nat.mul_eq_zero.mp h5 with h | h
        · omega
        · have := Nat.two_pow_pos 1073; omega
      · cases h
    rw [hr]
    show copysign (zero false) (hf 730) = hf 0
    decide +kernel
  · rfl
end Mine
end
section
set_option maxRecDepth 100000
namespace Mine
def firstS (y : Int) : Int := 2117212 + 1461 * ((y - 533) / 4) + 365 * ((y - 533) % 4)
def firstM (y : Int) : Int := 1922868 + 365 * (y - 1)
def PS (N y m d : Int) : Prop := 533 ≤ y ∧ y ≤ 20000000 ∧ 1 ≤ m ∧ m ≤ 13 ∧ 1 ≤ d ∧ d ≤ 30 ∧ (m = 13 → d ≤ 6) ∧ (m = 13 → y % 4 ≠ 0 → d ≤ 5) ∧ firstS y + 30 * (m - 1) + d - 1 = N
def PM (N y m d : Int) : Prop := 1 ≤ y ∧ y ≤ 20000000 ∧ 1 ≤ m ∧ m ≤ 13 ∧ 1 ≤ d ∧ d ≤ 30 ∧ (m = 13 → d ≤ 5) ∧ firstM y + 30 * (m - 1) + d - 1 = N

/-- the day's number in the Julian calendar, by rounds of four years from -4712 on -/
def jcum (k m : Int) : Int := if m = 1 then 0 else if m = 2 then 31 else (if k = 0 then 1 else 0) + (if m = 3 then 59 else if m = 4 then 90 else if m = 5 then 120 else if m = 6 then 151 else if m = 7 then 181 else if m = 8 then 212 else if m = 9 then 243 else if m = 10 then 273 else if m = 11 then 304 else 334)
def jlen (k m : Int) : Int := if m = 2 then (if k = 0 then 29 else 28) else if m = 4 ∨ m = 6 ∨ m = 9 ∨ m = 11 then 30 else 31
def jbase (k : Int) : Int := if k = 0 then 0 else 1 + 365 * k
def PJ (N y m d : Int) : Prop := 1 ≤ m ∧ m ≤ 12 ∧ 1 ≤ d ∧ d ≤ jlen ((y + 4712) % 4) m ∧ 0 ≤ y ∧ y ≤ 40000 ∧ N = 1461 * ((y + 4712) / 4) + jbase ((y + 4712) % 4) + jcum ((y + 4712) % 4) m + d - 1

/-- the reckoning of from_jd, of a day within its round of four years -/
def tc (t : Int) : Int := (20 * t + 28038) / 7305
def tr (t : Int) : Int := t + 1524 - 1461 * tc t / 4
def te (t : Int) : Int := tr t * 10000 / 306001
def td (t : Int) : Int := tr t - te t * 306001 / 10000
def tk (t : Int) : Int := if te t < 14 then tc t - 4 else tc t - 3
def tm (t : Int) : Int := if te t < 14 then te t - 1 else te t - 13
def QJ (t : Int) : Prop := 0 ≤ tk t ∧ tk t ≤ 3 ∧ 1 ≤ tm t ∧ tm t ≤ 12 ∧ 1 ≤ td t ∧ td t ≤ jlen (tk t) (tm t) ∧ t = jbase (tk t) + jcum (tk t) (tm t) + td t - 1
/-- the same in natural numbers: a check by computation -/
def nc (t : Nat) : Nat := (20 * t + 28038) / 7305
def nr (t : Nat) : Nat := t + 1524 - 1461 * nc t / 4
def nee (t : Nat) : Nat := nr t * 10000 / 306001
def nd (t : Nat) : Nat := nr t - nee t * 306001 / 10000
def nk (t : Nat) : Nat := cond (Nat.ble 14 (nee t)) (nc t - 3) (nc t - 4)
def nm (t : Nat) : Nat := cond (Nat.ble 14 (nee t)) (nee t - 13) (nee t - 1)
def nlen (k m : Nat) : Nat := cond (Nat.beq m 2) (cond (Nat.beq k 0) 29 28) (cond (Nat.beq m 4 || Nat.beq m 6 || Nat.beq m 9 || Nat.beq m 11) 30 31)
def nbase (k : Nat) : Nat := cond (Nat.beq k 0) 0 (1 + 365 * k)
def ncum (k m : Nat) : Nat := cond (Nat.beq m 1) 0 (cond (Nat.beq m 2) 31 (cond (Nat.beq k 0) 1 0 + cond (Nat.beq m 3) 59 (cond (Nat.beq m 4) 90 (cond (Nat.beq m 5) 120 (cond (Nat.beq m 6) 151 (cond (Nat.beq m 7) 181 (cond (Nat.beq m 8) 212 (cond (Nat.beq m 9) 243 (cond (Nat.beq m 10) 273 (cond (Nat.beq m 11) 304 334))))))))))
def chkQ (t : Nat) : Bool := Nat.ble (cond (Nat.ble 14 (nee t)) 3 4) (nc t) && Nat.ble 2 (nee t) && Nat.ble (nk t) 3 && Nat.ble 1 (nm t) && Nat.ble (nm t) 12 && Nat.ble 1 (nd t) && Nat.ble (nd t) (nlen (nk t) (nm t)) && Nat.beq (t + 1) (nbase (nk t) + ncum (nk t) (nm t) + nd t)
def chkR (k m d : Nat) : Bool := Nat.ble (nbase k + ncum k m + d) 1460 && Nat.beq (nk (nbase k + ncum k m + d)) k && Nat.beq (nm (nbase k + ncum k m + d)) m && Nat.beq (nd (nbase k + ncum k m + d)) (d + 1)
theorem QN_all : (List.range 1461).all chkQ = true := by decide +kernel
theorem RN_all : ((List.range 4).all fun k => (List.range 12).all fun m => (List.range (nlen k (m + 1))).all fun d => chkR k (m + 1) d) = true := by decide +kernel
theorem tc_n (t : Nat) : tc (t : Int) = (nc t : Int) := by unfold tc nc; omega
theorem tr_n (t : Nat) : tr (t : Int) = (nr t : Int) := by unfold tr nr; rw [tc_n]; unfold nc; omega
theorem te_n (t : Nat) : te (t : Int) = (nee t : Int) := by unfold te nee; rw [tr_n]; omega
theorem td_n (t : Nat) : td (t : Int) = (nd t : Int) := by unfold td nd; rw [tr_n, te_n]; unfold nee; omega
theorem ble14 (t : Nat) : cond (Nat.ble 14 (nee t)) 3 4 = if nee t < 14 then 4 else 3 := by
  by_cases h : nee t < 14
  · have : Nat.ble 14 (nee t) = false := by cases e : Nat.ble 14 (nee t) with
      | false => rfl
      | true => have := Nat.le_of_ble_eq_true e; omega
    rw [this, if_pos h, cond_false]
  · rw [Nat.ble_eq_true_of_le (by omega), if_neg h, cond_true]
theorem nk_if (t : Nat) : nk t = if nee t < 14 then nc t - 4 else nc t - 3 := by
  unfold nk
  by_cases h : nee t < 14
  · have : Nat.ble 14 (nee t) = false := by cases e : Nat.ble 14 (nee t) with
      | false => rfl
      | true => have := Nat.le_of_ble_eq_true e; omega
    rw [this, if_pos h, cond_false]
  · rw [Nat.ble_eq_true_of_le (by omega), if_neg h, cond_true]
theorem nm_if (t : Nat) : nm t = if nee t < 14 then nee t - 1 else nee t - 13 := by
  unfold nm
  by_cases h : nee t < 14
  · have : Nat.ble 14 (nee t) = false := by cases e : Nat.ble 14 (nee t) with
      | false => rfl
      | true => have := Nat.le_of_ble_eq_true e; omega
    rw [this, if_pos h, cond_false]
  · rw [Nat.ble_eq_true_of_le (by omega), if_neg h, cond_true]
theorem tk_n {t : Nat} (h : cond (Nat.ble 14 (nee t)) 3 4 ≤ nc t) : tk (t : Int) = (nk t : Int) := by
  rw [ble14] at h
  unfold tk; rw [nk_if, te_n, tc_n]; by_cases h1 : nee t < 14
  · rw [if_pos h1] at h; rw [if_pos h1, if_pos (by omega)]; omega
  · rw [if_neg h1] at h; rw [if_neg h1, if_neg (by omega)]; omega
theorem tm_n {t : Nat} (h : 2 ≤ nee t) : tm (t : Int) = (nm t : Int) := by
  unfold tm; rw [nm_if, te_n]; by_cases h1 : nee t < 14
  · rw [if_pos h1, if_pos (by omega)]; omega
  · rw [if_neg h1, if_neg (by omega)]; omega
theorem jlen_n : ∀ k : Nat, k < 4 → ∀ m : Nat, m < 13 → jlen (k : Int) (m : Int) = (nlen k m : Int) := by decide
theorem jcum_n : ∀ k : Nat, k < 4 → ∀ m : Nat, m < 13 → jcum (k : Int) (m : Int) = (ncum k m : Int) := by decide
theorem jbase_n : ∀ k : Nat, k < 4 → jbase (k : Int) = (nbase k : Int) := by decide
theorem QJ_all (t : Nat) (ht : t < 1461) : QJ (t : Int) := by
  have h := List.all_eq_true.mp QN_all t (List.mem_range.mpr ht)
  unfold chkQ at h
  simp only [Bool.and_eq_true] at h
  obtain ⟨⟨⟨⟨⟨⟨⟨h1, h2⟩, h3⟩, h4⟩, h5⟩, h6⟩, h7⟩, h8⟩ := h
  replace h1 := Nat.le_of_ble_eq_true h1
  replace h2 := Nat.le_of_ble_eq_true h2
  replace h3 := Nat.le_of_ble_eq_true h3
  replace h4 := Nat.le_of_ble_eq_true h4
  replace h5 := Nat.le_of_ble_eq_true h5
  replace h6 := Nat.le_of_ble_eq_true h6
  replace h7 := Nat.le_of_ble_eq_true h7
  replace h8 := Nat.eq_of_beq_eq_true h8
  unfold QJ
  rw [tk_n h1, tm_n h2, td_n, jlen_n _ (by omega) _ (by omega), jbase_n _ (by omega), jcum_n _ (by omega) _ (by omega)]
  omega
theorem RJ_nat {k m d : Nat} (hk : k < 4) (hm : m < 12) (hd : d < nlen k (m + 1)) : nbase k + ncum k (m + 1) + d < 1461 ∧ tk ((nbase k + ncum k (m + 1) + d : Nat) : Int) = (k : Int) ∧ tm ((nbase k + ncum k (m + 1) + d : Nat) : Int) = ((m + 1 : Nat) : Int) ∧ td ((nbase k + ncum k (m + 1) + d : Nat) : Int) = ((d + 1 : Nat) : Int) := by
  have h := List.all_eq_true.mp (List.all_eq_true.mp (List.all_eq_true.mp RN_all k (List.mem_range.mpr hk)) m (List.mem_range.mpr hm)) d (List.mem_range.mpr hd)
  unfold chkR at h
  simp only [Bool.and_eq_true] at h
  obtain ⟨⟨⟨h1, h2⟩, h3⟩, h4⟩ := h
  replace h1 := Nat.le_of_ble_eq_true h1
  replace h2 := Nat.eq_of_beq_eq_true h2
  replace h3 := Nat.eq_of_beq_eq_true h3
  replace h4 := Nat.eq_of_beq_eq_true h4
  generalize nbase k + ncum k (m + 1) + d = t at *
  have g := List.all_eq_true.mp QN_all t (List.mem_range.mpr (by omega))
  unfold chkQ at g
  simp only [Bool.and_eq_true] at g
  obtain ⟨⟨⟨⟨⟨⟨⟨g1, g2⟩, _⟩, _⟩, _⟩, _⟩, _⟩, _⟩ := g
  rw [tk_n (Nat.le_of_ble_eq_true g1), tm_n (Nat.le_of_ble_eq_true g2), td_n, h2, h3, h4]
  exact ⟨by omega, rfl, rfl, rfl⟩
theorem jlen_le (k m : Int) : jlen k m ≤ 31 := by unfold jlen; (repeat' split) <;> omega
theorem RJ_int {k m d : Int} (k0 : 0 ≤ k) (k1 : k < 4) (m1 : 1 ≤ m) (m2 : m ≤ 12) (d1 : 1 ≤ d) (d2 : d ≤ jlen k m) : 0 ≤ jbase k + jcum k m + d - 1 ∧ jbase k + jcum k m + d - 1 < 1461 ∧ tk (jbase k + jcum k m + d - 1) = k ∧ tm (jbase k + jcum k m + d - 1) = m ∧ td (jbase k + jcum k m + d - 1) = d := by
  obtain ⟨k', rfl⟩ := Int.eq_ofNat_of_zero_le k0
  obtain ⟨m', hm⟩ := Int.eq_ofNat_of_zero_le (show 0 ≤ m - 1 by omega)
  obtain ⟨d', hd⟩ := Int.eq_ofNat_of_zero_le (show 0 ≤ d - 1 by omega)
  obtain rfl : m = ((m' + 1 : Nat) : Int) := by omega
  obtain rfl : d = ((d' + 1 : Nat) : Int) := by omega
  rw [jlen_n _ (by omega) _ (by omega)] at d2
  have h := RJ_nat (k := k') (m := m') (d := d') (by omega) (by omega) (by omega)
  rw [jbase_n _ (by omega), jcum_n _ (by omega) _ (by omega)]
  have e : ((nbase k' : Nat) : Int) + ((ncum k' (m' + 1) : Nat) : Int) + ((d' + 1 : Nat) : Int) - 1 = ((nbase k' + ncum k' (m' + 1) + d' : Nat) : Int) := by omega
  rw [e]
  exact ⟨by omega, by omega, h.2.1, h.2.2.1, h.2.2.2⟩

theorem PJ_unique {N y m d y' m' d' : Int} (h : PJ N y m d) (h' : PJ N y' m' d') : y = y' ∧ m = m' ∧ d = d' := by
  obtain ⟨a1, a2, a3, a4, a5, a6, a7⟩ := h
  obtain ⟨b1, b2, b3, b4, b5, b6, b7⟩ := h'
  have e1 := RJ_int (by omega) (by omega) a1 a2 a3 a4
  have e2 := RJ_int (by omega) (by omega) b1 b2 b3 b4
  have ht : jbase ((y + 4712) % 4) + jcum ((y + 4712) % 4) m + d - 1 = jbase ((y' + 4712) % 4) + jcum ((y' + 4712) % 4) m' + d' - 1 := by
    have e1' := e1.2.1
    have e2' := e2.2.1
    have e1'' := e1.1
    have e2'' := e2.1
    clear e1 e2
    generalize jbase ((y + 4712) % 4) = u at *
    generalize jbase ((y' + 4712) % 4) = v at *
    generalize jcum ((y + 4712) % 4) m = u' at *
    generalize jcum ((y' + 4712) % 4) m' = v' at *
    omega
  rw [ht] at e1
  obtain ⟨f1, f2, f3, f4, f5⟩ := e1
  obtain ⟨g1, g2, g3, g4, g5⟩ := e2
  rw [g3] at f3
  rw [g4] at f4
  rw [g5] at f5
  have hq : (y + 4712) / 4 = (y' + 4712) / 4 := by omega
  omega
theorem PJ_meeus {N : Int} (h0 : 1922868 ≤ N) (h1 : N ≤ 12200000) :
    PJ N (1461 * 0 + 4 * (N / 1461) - 4712 + tk (N % 1461)) (tm (N % 1461)) (td (N % 1461)) := by
  have h := QJ_all (N % 1461).toNat (by omega)
  rw [Int.toNat_of_nonneg (by omega)] at h
  obtain ⟨a1, a2, a3, a4, a5, a6, a7⟩ := h
  generalize hk : tk (N % 1461) = k at *
  have hmod : (1461 * 0 + 4 * (N / 1461) - 4712 + k + 4712) % 4 = k := by omega
  have hdiv : (1461 * 0 + 4 * (N / 1461) - 4712 + k + 4712) / 4 = N / 1461 := by omega
  refine ⟨a3, a4, a5, ?_, by omega, by omega, ?_⟩
  · rw [hmod]; exact a6
  · rw [hmod, hdiv]; omega
/-- the reckoning, as the program makes it -/
theorem PJ_a {N : Int} (h0 : 1922868 ≤ N) (h1 : N ≤ 12200000) (he : (N + 1524 - 1461 * ((20 * (N + 1524) - 2442) / 7305) / 4) * 10000 / 306001 < 14) :
    PJ N ((20 * (N + 1524) - 2442) / 7305 - 4716) ((N + 1524 - 1461 * ((20 * (N + 1524) - 2442) / 7305) / 4) * 10000 / 306001 - 1) (N + 1524 - 1461 * ((20 * (N + 1524) - 2442) / 7305) / 4 - (N + 1524 - 1461 * ((20 * (N + 1524) - 2442) / 7305) / 4) * 10000 / 306001 * 306001 / 10000) := by
  have h := PJ_meeus h0 h1
  have e1 : (20 * (N + 1524) - 2442) / 7305 = 4 * (N / 1461) + tc (N % 1461) := by unfold tc; omega
  have e2 : N + 1524 - 1461 * ((20 * (N + 1524) - 2442) / 7305) / 4 = tr (N % 1461) := by unfold tr; rw [e1]; omega
  rw [e2] at he ⊢
  rw [e1]
  have e3 : tr (N % 1461) * 10000 / 306001 = te (N % 1461) := rfl
  rw [e3] at he ⊢
  have e4 : tr (N % 1461) - te (N % 1461) * 306001 / 10000 = td (N % 1461) := rfl
  rw [e4]
  unfold tk tm at h
  rw [if_pos he, if_pos he] at h
  have e5 : 1461 * 0 + 4 * (N / 1461) - 4712 + (tc (N % 1461) - 4) = 4 * (N / 1461) + tc (N % 1461) - 4716 := by omega
  rw [e5] at h
  exact h
theorem PJ_b {N : Int} (h0 : 1922868 ≤ N) (h1 : N ≤ 12200000) (he : ¬ (N + 1524 - 1461 * ((20 * (N + 1524) - 2442) / 7305) / 4) * 10000 / 306001 < 14) :
    PJ N ((20 * (N + 1524) - 2442) / 7305 - 4715) ((N + 1524 - 1461 * ((20 * (N + 1524) - 2442) / 7305) / 4) * 10000 / 306001 - 13) (N + 1524 - 1461 * ((20 * (N + 1524) - 2442) / 7305) / 4 - (N + 1524 - 1461 * ((20 * (N + 1524) - 2442) / 7305) / 4) * 10000 / 306001 * 306001 / 10000) := by
  have h := PJ_meeus h0 h1
  have e1 : (20 * (N + 1524) - 2442) / 7305 = 4 * (N / 1461) + tc (N % 1461) := by unfold tc; omega
  have e2 : N + 1524 - 1461 * ((20 * (N + 1524) - 2442) / 7305) / 4 = tr (N % 1461) := by unfold tr; rw [e1]; omega
  rw [e2] at he ⊢
  rw [e1]
  have e3 : tr (N % 1461) * 10000 / 306001 = te (N % 1461) := rfl
  rw [e3] at he ⊢
  have e4 : tr (N % 1461) - te (N % 1461) * 306001 / 10000 = td (N % 1461) := rfl
  rw [e4]
  unfold tk tm at h
  rw [if_neg he, if_neg he] at h
  have e5 : 1461 * 0 + 4 * (N / 1461) - 4712 + (tc (N % 1461) - 3) = 4 * (N / 1461) + tc (N % 1461) - 4715 := by omega
  rw [e5] at h
  exact h
theorem PJ_a2 {N M : Int} (hM : M = N) (h0 : 1922868 ≤ N) (h1 : N ≤ 12200000) (he : (M + 1524 - 1461 * ((20 * (M + 1524) - 2442) / 7305) / 4) * 10000 / 306001 < 14) :
    PJ N ((20 * (M + 1524) - 2442) / 7305 - 4716) ((M + 1524 - 1461 * ((20 * (M + 1524) - 2442) / 7305) / 4) * 10000 / 306001 - 1) (M + 1524 - 1461 * ((20 * (M + 1524) - 2442) / 7305) / 4 - (M + 1524 - 1461 * ((20 * (M + 1524) - 2442) / 7305) / 4) * 10000 / 306001 * 306001 / 10000) := by
  subst hM; exact PJ_a h0 h1 he
theorem PJ_b2 {N M : Int} (hM : M = N) (h0 : 1922868 ≤ N) (h1 : N ≤ 12200000) (he : ¬ (M + 1524 - 1461 * ((20 * (M + 1524) - 2442) / 7305) / 4) * 10000 / 306001 < 14) :
    PJ N ((20 * (M + 1524) - 2442) / 7305 - 4715) ((M + 1524 - 1461 * ((20 * (M + 1524) - 2442) / 7305) / 4) * 10000 / 306001 - 13) (M + 1524 - 1461 * ((20 * (M + 1524) - 2442) / 7305) / 4 - (M + 1524 - 1461 * ((20 * (M + 1524) - 2442) / 7305) / 4) * 10000 / 306001 * 306001 / 10000) := by
  subst hM; exact PJ_b h0 h1 he
/-- the two calendars' dates are told by their numbers -/
theorem PS_unique {N y m d y' m' d' : Int} (h : PS N y m d) (h' : PS N y' m' d') : y = y' ∧ m = m' ∧ d = d' := by
  unfold PS firstS at *
  obtain ⟨i, hi⟩ : ∃ i, i = 30 * (m - 1) + d - 1 := ⟨_, rfl⟩
  obtain ⟨j, hj⟩ : ∃ j, j = 30 * (m' - 1) + d' - 1 := ⟨_, rfl⟩
  have a1 : 0 ≤ i ∧ i ≤ 365 ∧ (y % 4 ≠ 0 → i ≤ 364) ∧ 2117212 + 1461 * ((y - 533) / 4) + 365 * ((y - 533) % 4) + i = N := by omega
  have a2 : 0 ≤ j ∧ j ≤ 365 ∧ (y' % 4 ≠ 0 → j ≤ 364) ∧ 2117212 + 1461 * ((y' - 533) / 4) + 365 * ((y' - 533) % 4) + j = N := by omega
  have hy : y = y' := by clear h h' hi hj; omega
  subst hy
  have hij : i = j := by omega
  have hm : m = m' := by clear a1 a2; omega
  omega
theorem PM_unique {N y m d y' m' d' : Int} (h : PM N y m d) (h' : PM N y' m' d') : y = y' ∧ m = m' ∧ d = d' := by
  unfold PM firstM at *
  obtain ⟨i, hi⟩ : ∃ i, i = 30 * (m - 1) + d - 1 := ⟨_, rfl⟩
  obtain ⟨j, hj⟩ : ∃ j, j = 30 * (m' - 1) + d' - 1 := ⟨_, rfl⟩
  have a1 : 0 ≤ i ∧ i ≤ 364 ∧ 1922868 + 365 * (y - 1) + i = N := by omega
  have a2 : 0 ≤ j ∧ j ≤ 364 ∧ 1922868 + 365 * (y' - 1) + j = N := by omega
  have hy : y = y' := by clear h h' hi hj; omega
  subst hy
  have hij : i = j := by omega
  have hm : m = m' := by clear a1 a2; omega
  omega
/-- the year of Sarkawag begins on 11 August -/
theorem PJ_august {y : Int} (h0 : 533 ≤ y) (h1 : y ≤ 39000) : PJ (firstS y) (y + 551) 8 11 := by
  unfold PJ firstS
  have hk : (y + 551 + 4712) % 4 = (y - 533) % 4 := by omega
  have hq : (y + 551 + 4712) / 4 = (y - 533) / 4 + 1449 := by omega
  rw [hk, hq]
  have k0 : 0 ≤ (y - 533) % 4 := by omega
  have k1 : (y - 533) % 4 < 4 := by omega
  generalize (y - 533) % 4 = k at *
  have e1 : jlen k 8 = 31 := rfl
  have e2 : jbase k + jcum k 8 = 365 * k + 213 := by
    unfold jbase jcum
    by_cases h : k = 0
    · subst h; rfl
    · simp only [if_neg h]; simp; omega
  rw [e1]
  omega
/-- an item of a year's months' lengths, x that of February -/
def jit (x m : Int) : Int := if m = 2 then x else if m = 4 ∨ m = 6 ∨ m = 9 ∨ m = 11 then 30 else 31
/-- what holds between the turns of the law's second loop -/
def JI (y d0 day m : Int) : Prop := 1 ≤ m ∧ m ≤ 12 ∧ 0 ≤ day ∧ day + jcum ((y + 4712) % 4) m = d0 ∧ (d0 ≤ 364 ∨ (y + 4712) % 4 = 0 ∧ d0 ≤ 365)
theorem JI_start {y d : Int} (h0 : 0 ≤ d) (h1 : d ≤ 364 ∨ (y + 4712) % 4 = 0 ∧ d ≤ 365) : JI y d d 1 :=
  ⟨by decide, by decide, h0, by show d + 0 = d; omega, h1⟩
theorem jcum_succ {k x m : Int} (h1 : 1 ≤ m) (h2 : m ≤ 11) (hx : k = 0 ∧ x = 29 ∨ k ≠ 0 ∧ x = 28) : jcum k (m + 1) = jcum k m + jit x m := by
  have hm : m = 1 ∨ m = 2 ∨ m = 3 ∨ m = 4 ∨ m = 5 ∨ m = 6 ∨ m = 7 ∨ m = 8 ∨ m = 9 ∨ m = 10 ∨ m = 11 := by omega
  unfold jcum jit
  rcases hx with ⟨rfl, rfl⟩ | ⟨hk, rfl⟩
  · rcases hm with rfl | rfl | rfl | rfl | rfl | rfl | rfl | rfl | rfl | rfl | rfl <;> decide
  · simp only [if_neg hk]
    rcases hm with rfl | rfl | rfl | rfl | rfl | rfl | rfl | rfl | rfl | rfl | rfl <;> decide
theorem jcum_12 {k : Int} : jcum k 12 = (if k = 0 then 1 else 0) + 334 := rfl
theorem JI_turn {y d0 day m x : Int} (h : JI y d0 day m) (hx : (y + 4712) % 4 = 0 ∧ x = 29 ∨ (y + 4712) % 4 ≠ 0 ∧ x = 28) (hd : jit x m ≤ day) : JI y d0 (day - jit x m) (m + 1) := by
  obtain ⟨a1, a2, a3, a4, a5⟩ := h
  have hm : m ≤ 11 := by
    by_cases hm : m = 12
    · exfalso
      subst hm
      have e : jit x 12 = 31 := rfl
      rw [e] at hd
      rw [jcum_12] at a4
      split at a4 <;> omega
    · omega
  have := jcum_succ a1 hm hx
  exact ⟨by omega, by omega, by omega, by omega, a5⟩
theorem JI_end {N y d0 day m x : Int} (h : JI y d0 day m) (hx : (y + 4712) % 4 = 0 ∧ x = 29 ∨ (y + 4712) % 4 ≠ 0 ∧ x = 28) (hd : day < jit x m) (y0 : 0 ≤ y) (y1 : y ≤ 40000)
    (hN : N = 1461 * ((y + 4712) / 4) + jbase ((y + 4712) % 4) + d0) : PJ N y m (day + 1) := by
  obtain ⟨a1, a2, a3, a4, a5⟩ := h
  refine ⟨a1, a2, by omega, ?_, y0, y1, by omega⟩
  have e : jit x m = jlen ((y + 4712) % 4) m := by
    unfold jit jlen
    rcases hx with ⟨hk, rfl⟩ | ⟨hk, rfl⟩
    · rw [if_pos hk]
    · rw [if_neg hk]
  omega
def JW (y d0 day m : Int) : Prop := 1 ≤ m ∧ m ≤ 12 ∧ 0 ≤ day ∧ JI y d0 day m
theorem JW_start {y d : Int} (h0 : 0 ≤ d) (h1 : d ≤ 364 ∨ (y + 4712) % 4 = 0 ∧ d ≤ 365) : 1 ≤ (1 : Int) ∧ (1 : Int) ≤ 12 ∧ 0 ≤ d ∧ JI y d d 1 := ⟨by decide, by decide, h0, JI_start h0 h1⟩
theorem JW_turn {y d0 day m x : Int} (h : JI y d0 day m) (hx : (y + 4712) % 4 = 0 ∧ x = 29 ∨ (y + 4712) % 4 ≠ 0 ∧ x = 28) (hd : jit x m ≤ day) :
    1 ≤ m + 1 ∧ m + 1 ≤ 12 ∧ 0 ≤ day - jit x m ∧ JI y d0 (day - jit x m) (m + 1) :=
  have t := JI_turn h hx hd
  ⟨t.1, t.2.1, t.2.2.1, t⟩
def JF (N y d : Int) : Prop := 0 ≤ d ∧ (y = 4 * (N / 1461) - 4712 ∧ d = N % 1461 ∧ d < 366 ∨ 4 * (N / 1461) - 4712 < y ∧ d + 1 + 365 * (y - (4 * (N / 1461) - 4712)) = N % 1461 ∧ d < 365)
theorem JW_end {N y d0 day m x : Int} (h : JI y d0 day m) (hx : (y + 4712) % 4 = 0 ∧ x = 29 ∨ (y + 4712) % 4 ≠ 0 ∧ x = 28) (hd : day < jit x m) (h0 : 1922868 ≤ N) (h1 : N ≤ 12200000) (hF : JF N y d0) : PJ N y m (day + 1) := by
  obtain ⟨f0, f1⟩ := hF
  refine JI_end h hx hd (by omega) (by omega) ?_
  rcases f1 with ⟨a, b, c⟩ | ⟨a, b, c⟩
  · have e1 : (y + 4712) % 4 = 0 := by omega
    have e2 : (y + 4712) / 4 = N / 1461 := by omega
    rw [e1, e2, b]
    show N = _ + 0 + _
    omega
  · have e2 : (y + 4712) / 4 = N / 1461 := by omega
    have e3 : (y + 4712) % 4 = y - (4 * (N / 1461) - 4712) := by omega
    have e1 : jbase ((y + 4712) % 4) = 1 + 365 * ((y + 4712) % 4) := by unfold jbase; rw [if_neg (by omega)]
    rw [e1, e2, e3]
    omega
theorem JM_lt {x m day : Int} (hx : 1 ≤ x) (hd : jit x m ≤ day) : (day - jit x m).toNat < day.toNat := by
  have : 1 ≤ jit x m := by unfold jit; (repeat' split) <;> omega
  omega
theorem PJ_with {N y m d a b c : Int} {G : Prop} (h : PJ N y m d) (k : PJ N a b c → a = y ∧ b = m ∧ c = d → G) : PJ N a b c → G := fun x => k x (PJ_unique x h)
theorem PS_with {N y m d a b c : Int} {G : Prop} (h : PS N y m d) (k : PS N a b c → a = y ∧ b = m ∧ c = d → G) : PS N a b c → G := fun x => k x (PS_unique x h)
theorem PM_with {N y m d a b c : Int} {G : Prop} (h : PM N y m d) (k : PM N a b c → a = y ∧ b = m ∧ c = d → G) : PM N a b c → G := fun x => k x (PM_unique x h)
theorem PS_first {y : Int} (h0 : 533 ≤ y) (h1 : y ≤ 20000000) : PS (firstS y) y 1 1 := by unfold PS; omega
theorem PS_facts {N y m d : Int} {G : Prop} (k : PS N y m d → (2117212 ≤ firstS y ∧ 533 ≤ y ∧ y ≤ 20000000 ∧ 1 ≤ m ∧ m ≤ 13 ∧ 1 ≤ d ∧ d ≤ 30 ∧ (m ≠ 13 ∨ d ≤ 6) ∧ (m ≠ 13 ∨ y % 4 = 0 ∨ d ≤ 5) ∧ firstS y + 30 * (m - 1) + d - 1 = N ∧ 365 * (y - 533) ≤ N - 2117212) → G) : PS N y m d → G := fun x => k x (by unfold PS firstS at *; omega)
theorem PM_facts {N y m d : Int} {G : Prop} (k : PM N y m d → (1 ≤ y ∧ y ≤ 20000000 ∧ 1 ≤ m ∧ m ≤ 13 ∧ 1 ≤ d ∧ d ≤ 30 ∧ (m ≠ 13 ∨ d ≤ 5) ∧ firstM y + 30 * (m - 1) + d - 1 = N ∧ 365 * (y - 1) ≤ N - 1922868) → G) : PM N y m d → G := fun x => k x (by unfold PM firstM at *; omega)
/-- an item of the Armenian year's months' lengths, x the last -/
def j13 (x m : Int) : Int := if m = 13 then x else 30
theorem j13_getD {x m : Int} (h1 : 1 ≤ m) (h2 : m ≤ 13) : ([30, 30, 30, 30, 30, 30, 30, 30, 30, 30, 30, 30, x] : List Int).getD (m - 1).toNat 0 = j13 x m := by
  have hm : m = 1 ∨ m = 2 ∨ m = 3 ∨ m = 4 ∨ m = 5 ∨ m = 6 ∨ m = 7 ∨ m = 8 ∨ m = 9 ∨ m = 10 ∨ m = 11 ∨ m = 12 ∨ m = 13 := by omega
  rcases hm with rfl | rfl | rfl | rfl | rfl | rfl | rfl | rfl | rfl | rfl | rfl | rfl | rfl <;> rfl
theorem j13_take {x m : Int} (h1 : 1 ≤ m) (h2 : m ≤ 13) : (([30, 30, 30, 30, 30, 30, 30, 30, 30, 30, 30, 30, x] : List Int).take (m - 1).toNat).sum = 30 * (m - 1) := by
  have hm : m = 1 ∨ m = 2 ∨ m = 3 ∨ m = 4 ∨ m = 5 ∨ m = 6 ∨ m = 7 ∨ m = 8 ∨ m = 9 ∨ m = 10 ∨ m = 11 ∨ m = 12 ∨ m = 13 := by omega
  rcases hm with rfl | rfl | rfl | rfl | rfl | rfl | rfl | rfl | rfl | rfl | rfl | rfl | rfl <;> rfl
theorem f4 (x : Int) : Int.fmod x 4 = x % 4 := Int.fmod_eq_emod_of_nonneg x (by decide)
theorem jbase_of {k : Int} (h : 1 ≤ k) : jbase k = 1 + 365 * k := by unfold jbase; rw [if_neg (by omega)]
theorem jit_getD {x m : Int} (h1 : 1 ≤ m) (h2 : m ≤ 12) : ([31, x, 31, 30, 31, 30, 31, 31, 30, 31, 30, 31] : List Int).getD (m - 1).toNat 0 = jit x m := by
  have hm : m = 1 ∨ m = 2 ∨ m = 3 ∨ m = 4 ∨ m = 5 ∨ m = 6 ∨ m = 7 ∨ m = 8 ∨ m = 9 ∨ m = 10 ∨ m = 11 ∨ m = 12 := by omega
  rcases hm with rfl | rfl | rfl | rfl | rfl | rfl | rfl | rfl | rfl | rfl | rfl | rfl <;> rfl
theorem PJ_to_a {N y m d : Int} (h : PJ N y m d) (hm : m ≤ 2) : 2 * (1461 * (y - 1 + 4716) / 4 + (m + 12 + 1) * 306001 / 10000 + d) - 3049 = 2 * N - 1 := by
  obtain ⟨a1, a2, a3, a4, a5, a6, a7⟩ := h
  have k0 : 0 ≤ (y + 4712) % 4 := by omega
  have k1 : (y + 4712) % 4 < 4 := by omega
  have e1 : 1461 * (y - 1 + 4716) / 4 = 1461 * ((y + 4712) / 4) + (1461 * ((y + 4712) % 4 + 3)) / 4 := by omega
  rw [e1, a7]
  generalize (y + 4712) % 4 = k at *
  generalize (y + 4712) / 4 = q at *
  have hb : jbase k = (1461 * (k + 3)) / 4 - 1095 := by unfold jbase; split <;> omega
  have hm' : m = 1 ∨ m = 2 := by omega
  rcases hm' with rfl | rfl
  · have : jcum k 1 = 0 := rfl
    omega
  · have : jcum k 2 = 31 := rfl
    omega
theorem PJ_to_b {N y m d : Int} (h : PJ N y m d) (hm : 2 < m) : 2 * (1461 * (y + 4716) / 4 + (m + 1) * 306001 / 10000 + d) - 3049 = 2 * N - 1 := by
  obtain ⟨a1, a2, a3, a4, a5, a6, a7⟩ := h
  have k0 : 0 ≤ (y + 4712) % 4 := by omega
  have k1 : (y + 4712) % 4 < 4 := by omega
  have e1 : 1461 * (y + 4716) / 4 = 1461 * ((y + 4712) / 4) + (1461 * ((y + 4712) % 4 + 4)) / 4 := by omega
  rw [e1, a7]
  generalize (y + 4712) % 4 = k at *
  generalize (y + 4712) / 4 = q at *
  have hb : jbase k + (if k = 0 then 1 else 0) = (1461 * (k + 4)) / 4 - 1460 := by unfold jbase; split <;> omega
  have hm' : m = 3 ∨ m = 4 ∨ m = 5 ∨ m = 6 ∨ m = 7 ∨ m = 8 ∨ m = 9 ∨ m = 10 ∨ m = 11 ∨ m = 12 := by omega
  generalize hj : (if k = 0 then (1 : Int) else 0) = j at *
  have hc : ∀ n, 2 < n → jcum k n = j + (if n = 3 then 59 else if n = 4 then 90 else if n = 5 then 120 else if n = 6 then 151 else if n = 7 then 181 else if n = 8 then 212 else if n = 9 then 243 else if n = 10 then 273 else if n = 11 then 304 else 334) := by
    intro n hn
    unfold jcum
    rw [if_neg (by omega), if_neg (by omega), hj]
  have hc' := hc m hm
  rw [hc']
  rcases hm' with rfl | rfl | rfl | rfl | rfl | rfl | rfl | rfl | rfl | rfl <;> simp <;> omega
end Mine
end
section
set_option maxRecDepth 100000
namespace Mine
open PySem PySem.Calls PyProof.Rows PySem.Flt

theorem big53 {n : Nat} (h : n < 2 ^ 53) : n < 2 ^ 1023 := Nat.lt_of_lt_of_le h (Nat.pow_le_pow_right (by decide) (by decide))
theorem not_over {n : Int} (h : n.natAbs < 2 ^ 52) : ¬ Over n := by
  intro ho
  have := inf_of_over ho
  exact Float64.ofInt_fits (big53 (Nat.lt_of_lt_of_le h (Nat.pow_le_pow_right (by decide) (by decide)))) this

theorem k_half : (0x3fe0000000000000 : UInt64) = hf 1 := by decide +kernel
theorem k_onehalf : (0x3ff8000000000000 : UInt64) = hf 3 := by decide +kernel
theorem k_1524 : (0x4097d20000000000 : UInt64) = hf 3049 := by decide +kernel
theorem k_epoch : (0x413d55c580000000 : UInt64) = hf 3845003 := by decide +kernel
theorem k_sark : (0x4140272d40000000 : UInt64) = hf 4234421 := by decide +kernel

/-- the float of a quotient of two ints -/
def qf (a b : Int) : UInt64 := Float64.ofFrac (decide (a < 0) != decide (b < 0)) a.natAbs b.natAbs
theorem whole_qf {a b : Int} (h0 : 0 ≤ a) (h1 : a < 2 ^ 29) (hb0 : 0 < b) (hb1 : b < 2 ^ 20) : Whole (qf a b) (a / b) := whole_frac h0 h1 hb0 hb1

section
variable {prog : Program} {w : World} {A : Around} {E : Value → Shared → Prop} {s : Shared} {t u : Tok} {Q : Value → Shared → Prop} {x y : UInt64} {a b n : Int}

theorem w_sub_ff (hx : x = hf a) (hy : y = hf b) (ha : a.natAbs < 2 ^ 53 ∧ b.natAbs < 2 ^ 53 ∧ (a - b).natAbs < 2 ^ 53) (h : Q (.float (hf (a - b)) s.toks) { s with toks := s.toks + 1 }) :
    wpAny (model prog w) A (binaryOp .Sub (.float x t) (.float y u)) Q E s := sub_float (by subst hx hy; rw [sub_hf ha.1 ha.2.1 ha.2.2]; exact h)
theorem w_iadd_ff (hx : x = hf a) (hy : y = hf b) (ha : a.natAbs < 2 ^ 53 ∧ b.natAbs < 2 ^ 53 ∧ (a + b).natAbs < 2 ^ 53 ∧ (0 ≤ a ∨ 0 ≤ b)) (h : Q (.float (hf (a + b)) s.toks) { s with toks := s.toks + 1 }) :
    wpAny (model prog w) A (inplaceOp .Add (.float x t) (.float y u)) Q E s := iadd_float (by subst hx hy; rw [add_hf ha.1 ha.2.1 ha.2.2.1 ha.2.2.2]; exact h)
theorem w_sub_fi (hx : x = hf a) (ha : a.natAbs < 2 ^ 52 ∧ n.natAbs < 2 ^ 50) (h : Q (.float (hf (a - 2 * n)) s.toks) { s with toks := s.toks + 1 }) :
    wpAny (model prog w) A (binaryOp .Sub (.float x t) (.int n u)) Q E s :=
  sub_fi_fits (big53 (by omega)) (by subst hx; rw [ofInt_hf (by omega), sub_hf (by omega) (by omega) (by omega)]; exact h)
theorem w_add_fi (hx : x = hf a) (ha : a.natAbs < 2 ^ 52 ∧ n.natAbs < 2 ^ 50 ∧ (0 ≤ a ∨ 0 ≤ n)) (h : Q (.float (hf (a + 2 * n)) s.toks) { s with toks := s.toks + 1 }) :
    wpAny (model prog w) A (binaryOp .Add (.float x t) (.int n u)) Q E s :=
  add_fi_fits (big53 (by omega)) (by subst hx; rw [ofInt_hf (by omega), add_hf (by omega) (by omega) (by omega) (by omega)]; exact h)
theorem w_sub_if (hx : x = hf a) (ha : a.natAbs < 2 ^ 52 ∧ n.natAbs < 2 ^ 50) (h : Q (.float (hf (2 * n - a)) s.toks) { s with toks := s.toks + 1 }) :
    wpAny (model prog w) A (binaryOp .Sub (.int n u) (.float x t)) Q E s :=
  sub_if_fits (big53 (by omega)) (by subst hx; rw [ofInt_hf (by omega), sub_hf (by omega) (by omega) (by omega)]; exact h)
theorem w_sub_iF (ha : n.natAbs < 2 ^ 50) (h : Q (.float (Float64.sub (Float64.ofInt n) x) s.toks) { s with toks := s.toks + 1 }) :
    wpAny (model prog w) A (binaryOp .Sub (.int n u) (.float x t)) Q E s := sub_if_fits (big53 (by omega)) h
theorem w_div_ff (hy : Float64.isZero y = false) (hA : A.handled = none) (h : Q (.float (Float64.div x y) s.toks) { s with toks := s.toks + 1 }) :
    wpAny (model prog w) A (binaryOp .Div (.float x t) (.float y u)) Q E s :=
  truediv_float_or hA (fun c => by rw [hy] at c; cases c) (fun _ => h)
theorem w_div_fi (hn : n.natAbs < 2 ^ 52 ∧ n ≠ 0) (hA : A.handled = none) (h : Q (.float (Float64.div x (Float64.ofInt n)) s.toks) { s with toks := s.toks + 1 }) :
    wpAny (model prog w) A (binaryOp .Div (.float x t) (.int n u)) Q E s :=
  truediv_fi hA (fun c => absurd c (not_over hn.1)) (fun c => absurd c hn.2) (fun _ _ => h)
theorem w_div_if (hn : n.natAbs < 2 ^ 52) (hy : Float64.isZero x = false) (hA : A.handled = none) (h : Q (.float (Float64.div (Float64.ofInt n) x) s.toks) { s with toks := s.toks + 1 }) :
    wpAny (model prog w) A (binaryOp .Div (.int n u) (.float x t)) Q E s :=
  truediv_if hA (fun c => absurd c (not_over hn)) (fun _ c => by rw [hy] at c; cases c) (fun _ _ => h)
theorem w_div_ii (ha : a.natAbs < 2 ^ 52 ∧ b ≠ 0) (hA : A.handled = none) (h : Q (.float (qf a b) s.toks) { s with toks := s.toks + 1 }) :
    wpAny (model prog w) A (binaryOp .Div (.int a t) (.int b u)) Q E s :=
  div_ii_fits hA (big53 (Nat.lt_of_lt_of_le ha.1 (Nat.pow_le_pow_right (by decide) (by decide)))) (fun c => absurd c ha.2) (fun _ _ => h)
theorem w_mul_fi (hn : n.natAbs < 2 ^ 52) (h : Q (.float (Float64.mul x (Float64.ofInt n)) s.toks) { s with toks := s.toks + 1 }) :
    wpAny (model prog w) A (binaryOp .Mult (.float x t) (.int n u)) Q E s := mul_fi_fits (big53 (Nat.lt_of_lt_of_le hn (Nat.pow_le_pow_right (by decide) (by decide)))) h
theorem w_mod_fi (hx : x = hf a) (ha : 0 ≤ a ∧ a < 2 ^ 53) (hA : A.handled = none) (h : Q (.float (hf (a % 730)) s.toks) { s with toks := s.toks + 1 }) :
    wpAny (model prog w) A (binaryOp .Mod (.float x t) (.int 365 u)) Q E s :=
  mod_fi hA (fun c => absurd c (not_over (by decide))) (fun c => by cases c) (fun _ _ => by subst hx; rw [mod_hf ha.1 ha.2]; exact h)

theorem whole_kinds {v : Int} (h : Whole x v) : Float64.isNaN x = false ∧ Float64.isInf x = false := by
  have := h.fin
  unfold Float64.isFinite at this
  unfold Float64.isNaN Float64.isInf
  split at this
  · rename_i hd; rw [hd]; exact ⟨rfl, rfl⟩
  · cases this
theorem w_trunc {v : Int} (hw : Whole x v) (hA : A.handled = none) (h : Q (.int v s.toks) { s with toks := s.toks + 1 }) : wpAny (model prog w) A (call (.builtin "math.trunc") [.float x t]) Q E s :=
  call_trunc_float hA (fun c => by rw [(whole_kinds hw).1] at c; cases c) (fun c => by rw [(whole_kinds hw).2] at c; cases c) (fun _ => by rw [hw.tr]; exact h)
theorem w_floor {v : Int} (hw : Whole x v) (hA : A.handled = none) (h : Q (.int v s.toks) { s with toks := s.toks + 1 }) : wpAny (model prog w) A (call (.builtin "math.floor") [.float x t]) Q E s :=
  call_floor_float hA (fun c => by rw [(whole_kinds hw).1] at c; cases c) (fun c => by rw [(whole_kinds hw).2] at c; cases c) (fun _ => by rw [hw.fl]; exact h)

theorem w_in30 {l : Addr} {items : Array Value} (ht : IsTup s.heap l items) (hi : IntsAre items.toList [4, 6, 9, 11]) (h : Q (.bool (decide (n = 4 ∨ n = 6 ∨ n = 9 ∨ n = 11))) s) : wpAny (model prog w) A (compareOp .In (.int n u) (.ref l)) Q E s :=
  in_tuple_ints ht hi (by
    have e : ([4, 6, 9, 11] : List Int).any (· == n) = decide (n = 4 ∨ n = 6 ∨ n = 9 ∨ n = 11) := by
      simp only [List.any_cons, List.any_nil, Bool.or_false, Bool.decide_or]
      have c : ∀ k : Int, (k == n) = decide (n = k) := fun k => by
        by_cases e : n = k
        · subst e; simp
        · simp [e, Ne.symm e]
      rw [c, c, c, c]
    rw [e]; exact h)
theorem w_item12 {value slice : PySem.Expr} {l : Addr} {vs : List Value} {m : Int} {f : Int} (hl : s.heap.IsList l vs.toArray) (hi : IntsAre vs [31, f, 31, 30, 31, 30, 31, 31, 30, 31, 30, 31]) (hm : 1 ≤ m ∧ m ≤ 12) (h : ∀ t, Q (.int (jit f m) t) s)
    (hs : subscripted slice false (.ref l) (.int (m - 1) u) = operate [.ref l, .int (m - 1) u] (getItem (.ref l) (.int (m - 1) u)) := by with_unfolding_all rfl) (hg : ∀ r, letTemporaryGo value (.ref l) r = pure () := by intro _; with_unfolding_all rfl) :
    wpAny (model prog w) A (subscriptTail value slice (.ref l) (.int (m - 1) u)) Q E s :=
  item_list_ints hl hi (by omega) (by show m - 1 < ((12 : Nat) : Int); omega) (by omega) (fun t => by rw [jit_getD hm.1 hm.2]; exact h t) hs hg
theorem w_item13 {value slice : PySem.Expr} {l : Addr} {vs : List Value} {m : Int} {f : Int} (hl : s.heap.IsList l vs.toArray) (hi : IntsAre vs [30, 30, 30, 30, 30, 30, 30, 30, 30, 30, 30, 30, f]) (hm : 1 ≤ m ∧ m ≤ 13) (h : m = 13 ∧ j13 f m = f ∨ m ≠ 13 ∧ j13 f m = 30 → ∀ t, Q (.int (j13 f m) t) s)
    (hs : subscripted slice false (.ref l) (.int (m - 1) u) = operate [.ref l, .int (m - 1) u] (getItem (.ref l) (.int (m - 1) u)) := by with_unfolding_all rfl) (hg : ∀ r, letTemporaryGo value (.ref l) r = pure () := by intro _; with_unfolding_all rfl) :
    wpAny (model prog w) A (subscriptTail value slice (.ref l) (.int (m - 1) u)) Q E s :=
  item_list_ints hl hi (by omega) (by show m - 1 < ((13 : Nat) : Int); omega) (by omega) (fun t => by rw [j13_getD hm.1 hm.2]; exact h (by unfold j13; by_cases e : m = 13 <;> simp [e]) t) hs hg
theorem w_sum13 {h₀ : Heap} {L l : Addr} {m₀ : Str → Option Value} {news : List (Addr × Obj)} {vs : List Value} {x m : Int} (hh : A.handled = none) (F : Fr h₀ L s.heap m₀) (N : News h₀ L s.heap news) (hl : s.heap.IsList l vs.toArray)
    (hi : IntsAre vs (List.take (m - 1).toNat [30, 30, 30, 30, 30, 30, 30, 30, 30, 30, 30, 30, x])) (hm : 1 ≤ m ∧ m ≤ 13)
    (h : ∀ h' tk t', Fr h₀ L h' m₀ → News h₀ L h' news → Q (.int (30 * (m - 1)) t') { s with heap := h', toks := tk }) :
    wpAny (model prog w) A (call (.builtin "sum") [.ref l]) Q E s :=
  PySem.W.sumK hh F N hl hi (by rw [j13_take hm.1 hm.2]; exact h)
theorem w_boolcase {M : Model} {env : Env} {x : Str} {p q : Int} {Q : Unit → Shared → Prop} (h1 : p = q → wpAny M A (storeName env x (.bool true)) Q E s) (h0 : p ≠ q → wpAny M A (storeName env x (.bool false)) Q E s) :
    wpAny M A (storeName env x (.bool (p == q))) Q E s := by
  by_cases h : p = q
  · rw [beq_iff_eq.mpr h]; exact h1 h
  · rw [beq_eq_false_iff_ne.mpr h]; exact h0 h
/-- the law's numbers -/
def numAt (ns : List Int) (k : Nat) : Int := ((ns.take 6).map (fun k' => if -10000000 < k' ∧ k' < 10000000 then k' else if -10000000 < k' ∧ ¬k' < 10000000 then k'.fmod 10000000 else k'.fmod 10000000) ++ [0, 0, 0, 0, 0, 0]).getD k 0
theorem numAt_bound (ns : List Int) (k : Nat) : -10000000 < numAt ns k ∧ numAt ns k < 10000000 := by
  have hf : ∀ x : Int, -10000000 < Int.fmod x 10000000 ∧ Int.fmod x 10000000 < 10000000 := fun x => by
    rw [Int.fmod_eq_emod_of_nonneg x (by decide)]; omega
  have key : ∀ v ∈ ((ns.take 6).map (fun k' : Int => if -10000000 < k' ∧ k' < 10000000 then k' else if -10000000 < k' ∧ ¬k' < 10000000 then k'.fmod 10000000 else k'.fmod 10000000) ++ [0, 0, 0, 0, 0, 0]), -10000000 < v ∧ v < 10000000 := by
    intro v hv
    rcases List.mem_append.mp hv with h | h
    · obtain ⟨x, _, rfl⟩ := List.mem_map.mp h

      split
      · assumption
      · split <;> exact hf x
    · simp at h; subst h; decide
  unfold numAt
  rw [List.getD_eq_getElem?_getD]
  cases h : ((ns.take 6).map (fun k' : Int => if -10000000 < k' ∧ k' < 10000000 then k' else if -10000000 < k' ∧ ¬k' < 10000000 then k'.fmod 10000000 else k'.fmod 10000000) ++ [0, 0, 0, 0, 0, 0])[k]? with
  | none => simp
  | some v => exact key v (List.mem_of_getElem? h)
theorem w_num {value slice : PySem.Expr} {l : Addr} {vs : List Value} {ns : List Int} {k : Int} (hl : s.heap.IsList l vs.toArray)
    (hi : IntsAre vs ((ns.take 6).map (fun k' => if -10000000 < k' ∧ k' < 10000000 then k' else if -10000000 < k' ∧ ¬k' < 10000000 then k'.fmod 10000000 else k'.fmod 10000000) ++ [0, 0, 0, 0, 0, 0]))
    (hk : 0 ≤ k ∧ k < 6) (h : -10000000 < numAt ns k.toNat ∧ numAt ns k.toNat < 10000000 → ∀ t, Q (.int (numAt ns k.toNat) t) s)
    (hs : subscripted slice false (.ref l) (.int k u) = operate [.ref l, .int k u] (getItem (.ref l) (.int k u)) := by with_unfolding_all rfl) (hg : ∀ r, letTemporaryGo value (.ref l) r = pure () := by intro _; with_unfolding_all rfl) :
    wpAny (model prog w) A (subscriptTail value slice (.ref l) (.int k u)) Q E s :=
  item_list_ints hl hi hk.1 (by rw [List.length_append]; simp only [List.length_cons, List.length_nil]; omega) (by omega) (h (numAt_bound ns k.toNat)) hs hg
theorem lt_ord (a b : Int) : (some (compare a b) == some Ordering.lt) = decide (a < b) := by
  rcases Int.lt_trichotomy a b with h | h | h
  · rw [Int.compare_eq_lt.mpr h, decide_eq_true h]; rfl
  · subst h; simp
  · rw [Int.compare_eq_gt.mpr h, decide_eq_false (by omega)]; rfl
theorem eq_ord (a b : Int) : (some (compare a b) == some Ordering.eq) = decide (a = b) := by
  rcases Int.lt_trichotomy a b with h | h | h
  · rw [Int.compare_eq_lt.mpr h, decide_eq_false (by omega)]; rfl
  · subst h; simp
  · rw [Int.compare_eq_gt.mpr h, decide_eq_false (by omega)]; rfl
theorem ne_ord (a b : Int) : (some (compare a b) != some Ordering.eq) = decide (a ≠ b) := by
  have := eq_ord a b
  unfold bne
  rw [this]
  by_cases h : a = b <;> simp [h]
theorem w_lt_fi (hx : x = hf a) (ha : a.natAbs < 2 ^ 53) (h : Q (.bool (decide (a < 2 * n))) s) : wpAny (model prog w) A (compareOp .Lt (.float x t) (.int n u)) Q E s :=
  lt_fi (by subst hx; rw [cmpInt_hf n ha, lt_ord]; exact h)
theorem w_eq_fi (hx : x = hf a) (ha : a.natAbs < 2 ^ 53) (h : Q (.bool (decide (a = 2 * n))) s) : wpAny (model prog w) A (compareOp .Eq (.float x t) (.int n u)) Q E s :=
  eq_fi (by subst hx; rw [cmpInt_hf n ha, eq_ord]; exact h)
theorem w_ne_ff (hx : x = hf a) (hy : y = hf b) (ha : a.natAbs < 2 ^ 53 ∧ b.natAbs < 2 ^ 53) (h : Q (.bool (decide (a ≠ b))) s) : wpAny (model prog w) A (compareOp .NotEq (.float x t) (.float y u)) Q E s :=
  AutoFloatOps.ne_0 (by subst hx hy; rw [cmp_hf ha.1 ha.2, ne_ord]; exact h)
end
end Mine
end
section
set_option maxRecDepth 100000
namespace Mine
open PySem PySem.W PySem.Calls PyProof.Rows

/-- what is known of the caller's frame, back from a call that caught -/
theorem turn_back {h₀ g g' h : Heap} {L L' : Addr} {m m' : Str → Option Value} {news' : List (Addr × Obj)}
    (FG : Fr h₀ L g m) (T : KtsTurn [L] g g') (F' : Fr g' L' h m') (N' : News g' L' h news') : Fr h₀ L h m ∧ News h₀ L h news' := by
  obtain ⟨⟨o, es, ep, hL, hd, hrest⟩, hkeep, habove⟩ := FG
  obtain ⟨sl, hL'⟩ := T.frame L o hL (.head _)
  have hnone : h₀.get? L = none := Heap.get?_none_of_le habove
  constructor
  · refine ⟨⟨_, es, ep, F'.keep _ _ hL', hd, hrest⟩, fun b ob hb => ?_, habove⟩
    have hne : b ∉ [L] := by
      intro hm
      cases hm with
      | head => rw [hnone] at hb; cases hb
      | tail _ hm => cases hm
    exact F'.keep b ob (T.other b ob (hkeep b ob hb) hne)
  · intro p hp
    obtain ⟨a1, a2, a3⟩ := N' p hp
    refine ⟨a1, ?_, ?_⟩
    · intro e
      rw [e, hL'] at a3
      cases a3
    · cases hq : h₀.get? p.1 with
      | none => rfl
      | some ob =>
        obtain ⟨s2, h2⟩ := T.up (hkeep _ _ hq)
        rw [h2] at a3
        cases a3

section
variable {prog : Program} {w : World} {A₀ A : Around} {s : Shared} {base h₀ : Heap} {L : Addr} {m : Str → Option Value} {env : Env} {news : List (Addr × Obj)} {K : Frag} {p : Program} {loose : List Str} {mean : ExcName → Option Value} {mg mb : Str → Option Value}
    {R : Result → Shared → Prop} {name qual : Str} {params : Arguments} {body : List Stmt} {scope : Scope} {dV kV doc pm cdv ct oc : Value} {an od : Option Addr} {osl : Array (Option Value)} {f : Addr} {args : Args} {binds : List (Str × Value)}

/-- a def that catches, entered from a frame of any kind (with cells too) -/
theorem code_try (B : Below A₀ base [] h₀) (F : Fr h₀ L s.heap m) (X₀ : K.In h₀) (N : News h₀ L s.heap news) (T : Top p loose mean mg mb h₀) (hA : A.frames = some [env]) (hf : env.frame = some L) (hke : env.scope.kind = .function)
    (ho : K.lookup f = some ⟨oc, od, .func (fnOf name qual params body scope dV kV doc pm an cdv ct), osl⟩) (hcd : codeIn K cdv qual = true) (hroom : A.depth < recursionLimit)
    (hbind : BindsTo s (fnOf name qual params body scope dV kV doc pm an cdv ct) args binds) (hloc : ∀ y ∈ binds, scope.names.lookup y.1 = some .local)
    (h : ∀ g L' h₁, Fr h₀ L g m → Fr g L' h₁ (fun y => binds.reverse.lookup y) → News g L' h₁ news → Below A base [env] g → K.In g → Top p loose mean mg mb g → KtsDicts ([env].filterMap (·.frame)) g →
      wpAny (model prog w) (A.deeper (envOf qual scope L' f cdv)) (execs body (envOf qual scope L' f cdv))
        (fun fl s' => LeaveS0 ([env].filterMap (·.frame)) h₀ L m g R (match fl with | .ret v => v | _ => .none) s')
        (fun e s' => wpAny (model prog w) (A.deeper (envOf qual scope L' f cdv)) (leaving (envOf qual scope L' f cdv) e) (fun _ s'' => R (.error e) s'') (fun e' s'' => R (.error e') s'') s')
        { s with heap := h₁, toks := s.toks + binds.length })
    (hco : scope.isCoroutine = false) (hgen : scope.isGenerator = false) (hk : scope.kind = .function)
    (hcell : ∀ x ∈ scope.names, x.2 ≠ .cell) : codeAny (model prog w) A (.call (.ref f) args) R s := by
  obtain ⟨FG, BG, st, _⟩ := groundX (R := R) B F N hA hf hke
  have hfm : [env].filterMap (·.frame) = [L] := by simp [List.filterMap_cons, hf]
  have X := X₀.keeps F.keep
  refine codeAny_call_def (fd := fnOf name qual params body scope dV kV doc pm an cdv ct) hroom (X _ _ ho) rfl (T.nolimit.keeps F.keep) (codeRec_of X hcd) rfl hbind hcell hloc (fun h₁ hns hk₁ => ?_) hco hgen hk
  have dicts : KtsDicts ([env].filterMap (·.frame)) (hideAll s.heap (news.map (·.1))) := by
    rw [hfm]
    intro b hb
    cases hb with
    | head => obtain ⟨o, es, ep, hL, hd, _⟩ := FG.ns; exact ⟨o, es, ep, hL, hd⟩
    | tail _ hb => cases hb
  have start : Fr (hideAll s.heap (news.map (·.1))) s.heap.objs.size h₁ (fun y => binds.reverse.lookup y) := ⟨hns, fun b o e => hk₁ b o (of_hideAll _ e), Nat.le_of_eq (hideAll_size _ _)⟩
  have led : News (hideAll s.heap (news.map (·.1))) s.heap.objs.size h₁ news := fun q hq => ⟨hk₁ _ _ (N q hq).1, Nat.ne_of_lt (Heap.lt_size (N q hq).1), hideAll_none _ (List.mem_map_of_mem hq)⟩
  refine wpAny_mono (h _ _ h₁ FG start led BG (X₀.keeps st) (T.keeps st) dicts) (fun fl s' hl => ?_) fun _ _ y => y
  obtain ⟨g', L', m', news', T', F', N', k⟩ := hl
  rw [hfm] at T'
  obtain ⟨a, b⟩ := turn_back FG T' F' N'
  exact k a b
end
end Mine
end
section
set_option maxRecDepth 100000
set_option Elab.async false
namespace Mine
open PySem PySem.W PySem.Calls PyProof.Rows

/-- an exception of a built-in class with its traceback's first entry, its other places as made -/
def TB (base : Heap) (e : Addr) (cls t : Value) (T : Addr) (fl : Value) (h : Heap) : Prop :=
  ∃ oe oT ts, h.get? e = some oe ∧ oe.cls = cls ∧ oe.data = .fields #[t, .ref T, .none, .none, .bool false, .none] ∧ base.get? T = none ∧ T ≠ e ∧ h.get? T = some oT ∧ oT.data = .fields ts ∧ ts[3]? = some fl

theorem TB.at {base h : Heap} {e T : Addr} {cls t fl : Value} (x : TB base e cls t T fl h) : h.TracedAtW base e cls t fl := by
  obtain ⟨oe, oT, ts, he, hc, hd, hn, hT, h1, h2, h3⟩ := x
  exact ⟨oe, _, T, oT, ts, he, ⟨hc, rfl⟩, hd, rfl, hn, hT, h1, h2, h3⟩

section
variable {M : Model} {A : Around} {E : Value → Shared → Prop} {s : Shared}

theorem note_first {base : Heap} {env : Env} {outer : List Env} {L e : Addr} {oe : Obj} {t : Value} {Q : Unit → Shared → Prop}
    (hfr : A.frames = some (env :: outer)) (hl : s.heap.FunFrames base (env :: outer)) (hf : env.frame = some L)
    (he : s.heap.get? e = some oe) (hkb : base.StaysIn s.heap) (hen : base.get? e = none) (hd : oe.data = .fields #[t, .none, .none, .none, .bool false, .none])
    (h : ∀ h' T, base.StaysIn h' → h'.FunFrames base (env :: outer) → TB base e oe.cls t T (rawInt L) h' → s.heap.UpToSlots h' → Q () { s with heap := h' }) :
    wpAny M A (noteFrame (.ref e) env) Q E s := by
  have hene : e ∉ (env :: outer).filterMap (·.frame) := fun hm => by
    obtain ⟨_, o, ho, hnf⟩ := hl.mem hm
    rw [he] at ho; injection ho with ho; subst ho; exact hnf _ hd
  unfold noteFrame
  simp only [hf]
  refine wpAny_bind (wpAny_field (x := .none) he hd rfl ?_)
  rw [if_neg (by decide)]
  refine wpAny_bind (wpAny_frameOf_fun hfr hl hf fun h₁ hs₁ => ?_)
  refine wpAny_bind (wpAny_entryPlaceOf fun pl hpl => ?_)
  unfold EntryCells.newEntry newFields
  refine wpAny_bind (wpAny_newObj_type ?_ (hpl.sizeOk5 _ _ _ _ _))
  have he₁ : h₁.get? e = some oe := (hs₁.2.1 e hene).trans he
  have kb₁ : base.StaysIn h₁ := fun b o hbo => (hs₁.2.1 b fun hm => by rw [(hl.mem hm).1] at hbo; cases hbo).trans (hkb b o hbo)
  generalize hob : ({ cls := .type "traceback", dict := none, data := .fields ([.none, .ref L, .none, rawInt L, .none] ++ (if pl.isEmpty then List.replicate 6 Value.none else pl)).toArray } : Obj) = ot
  have hot : ot.data = .fields ([.none, .ref L, .none, rawInt L, .none] ++ (if pl.isEmpty then List.replicate 6 Value.none else pl)).toArray := by rw [← hob]
  have hofr : ot.isFreed = false := by rw [← hob]; rfl
  have he₂ := Heap.get?_push_of_some (h := h₁) ot he₁
  refine wpAny_setField he₂ hd (by simp) (h _ h₁.objs.size ?_ ?_ ?_ ?_)
  all_goals
    have hTe : h₁.objs.size ≠ e := Nat.ne_of_gt (Heap.lt_size he₁)
    have hd₃ := Obj.data_mapFields hd (·.setIfInBounds 1 (Value.ref h₁.objs.size))
    have he₃ := Heap.get?_update_self (Obj.mapFields (·.setIfInBounds 1 (Value.ref h₁.objs.size))) he₂ (Obj.isFreed_of_fields hd₃)
    have hT₃ := (Heap.get?_update_other (h₁.push ot) (Obj.mapFields (·.setIfInBounds 1 (Value.ref h₁.objs.size))) (Ne.symm hTe)).trans (Heap.get?_push_size h₁ hofr)
    have keep : ∀ b o, b ≠ e → h₁.get? b = some o → ((h₁.push ot).update e (Obj.mapFields (·.setIfInBounds 1 (Value.ref h₁.objs.size)))).get? b = some o :=
      fun b o hbe hb => by
        rw [Heap.get?_update_other _ _ (Ne.symm hbe)]
        exact Heap.get?_push_of_some _ hb
    have noRecord : ∀ b o, s.heap.get? b = some o → (∀ vs, o.data ≠ .fields vs) → b ≠ e := fun b o hb hnf q => by
      rw [q, he] at hb; injection hb with hb; subst hb; exact hnf _ hd
  · exact fun b o hbo => keep b o (fun q => by rw [q, hen] at hbo; cases hbo) (kb₁ b o hbo)
  · exact hl.of_keeps fun b o hb hnf => by
      obtain ⟨sl, hs⟩ := hs₁.2.2 b o hb
      exact ⟨_, keep b _ (noRecord b o hb hnf) hs, rfl⟩
  · refine ⟨_, _, _, he₃, Obj.cls_mapFields _ _, hd₃, kb₁.fresh, hTe, hT₃, hot, ?_⟩
    first | (simp; done) | (rcases hpl with rfl | ⟨_, _, _, _, _, _, _, rfl⟩ <;> simp)
  · exact fun b o hb hnf => by
      obtain ⟨sl, hs⟩ := hs₁.2.2 b o hb
      exact ⟨sl, keep b _ (noRecord b o hb hnf) hs⟩

theorem flight_none {base : Heap} {l : List Env} {e T : Addr} {cls t fl : Value} {Q : Unit → Shared → Prop}
    (hkb : base.StaysIn s.heap) (hl : s.heap.FunFrames base l) (ht : TB base e cls t T fl s.heap)
    (h : ∀ h', base.StaysIn h' → h'.FunFrames base l → TB base e cls t T .none h' → s.heap.UpToSlots h' → Q () { s with heap := h' }) :
    wpAny M A (setFlight (.ref e) none) Q E s := by
  obtain ⟨oe, oT, ts, he, hcls, hd, hnT, hTe, hT, hdT, h3⟩ := ht
  have hsz3 : 3 < ts.size := (Array.getElem?_eq_some_iff.mp h3).1
  have other : ∀ b, b ≠ T → (s.heap.update T (Obj.mapFields (·.setIfInBounds 3 ((none : Option Addr).elim Value.none fun f => rawInt f)))).get? b = s.heap.get? b :=
    fun b hb => Heap.get?_update_other _ _ (Ne.symm hb)
  have noRecord : ∀ b o, s.heap.get? b = some o → (∀ vs, o.data ≠ .fields vs) → b ≠ T := fun b o hb hnf q => by
    rw [q, hT] at hb; injection hb with hb; subst hb; exact hnf ts hdT
  unfold setFlight
  refine wpAny_bind (wpAny_field (x := .ref T) he hd rfl ?_)
  rw [if_pos (show (Value.ref T != Value.none) = true from by simp)]
  refine wpAny_setField hT hdT hsz3 (h _ (fun b o hbo => (other b fun q => by rw [q, hnT] at hbo; cases hbo).trans (hkb b o hbo))
    (hl.of_keeps fun b o hb hnf => ⟨o, (other b (noRecord b o hb hnf)).trans hb, rfl⟩) ?_ fun b o hb hnf => ⟨o.slots, (other b (noRecord b o hb hnf)).trans hb⟩)
  exact ⟨oe, _, _, (other e (Ne.symm hTe)).trans he, hcls, hd, hnT, hTe, Heap.get?_update_self _ hT (Obj.isFreed_of_fields (Obj.data_mapFields hdT _)), Obj.data_mapFields hdT _, by simp [hsz3]⟩
end

theorem entry_unchain : entryFor table "proto.unchain" = some Builtin.«proto.unchain» := entryFor_of_tree (by kernel_rfl)

section
variable {prog : Program} {w : World} {A : Around} {E : Value → Shared → Prop} {s : Shared} {env : Env}

theorem code_unchain {e : Addr} {v : Value} {oe : Obj} {t T : Value} {R : Result → Shared → Prop} (he : s.heap.get? e = some oe) (hd : oe.data = .fields #[t, T, .none, .none, .bool false, .none])
    (h : R (.ok (.ret .none)) s) : codeAny (model prog w) A (.builtin "proto.unchain" ⟨[v, .ref e, .ref e, .bool false], []⟩) R s := by
  refine codeAny_builtin entry_unchain ?_
  unfold Builtin.«proto.unchain»
  refine wpAny_bind (wpAny_field (x := .none) he hd rfl ?_)
  rw [if_pos (show (Value.none == Value.none) = true from by decide)]
  exact wpAny_pure h

theorem raise_core {X Y N I N' I' : String} (hY : ExcClass Y N I) (hself : isSubtype (.type Y) (.type Y) = pure true) (hX : ExcClass X N' I') {x c : Sem Value} {e : Addr} {oe : Obj} {t T : Value} {Q : Flow → Shared → Prop}
    (hh : A.handled = some (.ref e)) (he : s.heap.get? e = some oe) (hcl : oe.cls = .type X) (hd : oe.data = .fields #[t, T, .none, .none, .bool false, .none])
    (hx : ∀ {Q : Value → Shared → Prop}, Q (.type Y) s → wpAny (model prog w) A x Q E s) (hc : ∀ {Q : Value → Shared → Prop}, Q (.ref e) s → wpAny (model prog w) A c Q E s)
    (h : ∀ h' e2, (∀ b o, s.heap.get? b = some o → h'.get? b = some o) → s.heap.get? e2 = none →
      (∃ o2 t2, h'.get? e2 = some o2 ∧ o2.cls = .type Y ∧ o2.data = .fields #[t2, .none, .ref e, .ref e, .bool true, .none]) → E (.ref e2) { s with heap := h' }) :
    wpAny (model prog w) A (raiseStmt env (some x) (some c)) Q E s := by
  unfold raiseStmt
  dsimp only
  refine wpAny_bind (hx ?_)
  refine wpAny_bind (wpAny_holding (hc ?_))
  refine wpAny_bind (wpAny_pure ?_)
  dsimp only
  refine wpAny_bind (wpAny_holding ?_)
  unfold excFromValue isExcClass
  refine wpAny_bind (wpAny_bind (wpAny_pure ?_))
  simp only [if_true]
  rw [hY.base]
  refine wpAny_pure ?_
  simp only [if_true]
  refine wpAny_bind (call_exc hY fun h' e2 hn => ?_)
  obtain ⟨ob, t2, he2, hcls2, hd2⟩ := hn.there
  have hT : ({ s with heap := h' } : Shared).TypeIs (.ref e2) Y := ⟨ob, he2, hcls2⟩
  have hTe : ({ s with heap := h' } : Shared).TypeIs (.ref e) X := ⟨oe, hn.keeps _ _ he, hcl⟩
  have hne : e2 ≠ e := fun q => by have := hn.new; rw [q, he] at this; cases this
  refine wpAny_bind (wpAny_isInstance hT hY.base ?_)
  simp only [Bool.not_true, Bool.false_eq_true, if_false]
  refine wpAny_pure ?_
  rw [if_neg (show ¬ ((Value.ref e == Value.none) = true) from by simp)]
  refine wpAny_bind (wpAny_holding ?_)
  refine wpAny_bind (m := (do if ← isType (Value.ref e) then isSubtype (Value.ref e) (Value.type "BaseException") else pure false)) ?_
  obtain ⟨ce, de, dae, sle⟩ := oe
  obtain rfl : ce = .type X := hcl
  obtain rfl : dae = _ := hd
  have he1 := hn.keeps _ _ he
  repeat (first | with_reducible refine wpAny_loadPart he1 ?_ | wp_step)
  all_goals try dsimp only
  rw [hX.base]
  refine wpAny_pure ?_
  rw [if_pos rfl]
  refine wpAny_pure ?_
  have hd3 := Obj.data_mapFields hd2 (·.setIfInBounds 3 (Value.ref e))
  have he3 := Heap.get?_update_self (Obj.mapFields (·.setIfInBounds 3 (Value.ref e))) he2 (Obj.isFreed_of_fields hd3)
  have hd4 := Obj.data_mapFields hd3 (·.setIfInBounds 4 (Value.bool true))
  have he4 := Heap.get?_update_self (Obj.mapFields (·.setIfInBounds 4 (Value.bool true))) he3 (Obj.isFreed_of_fields hd4)
  refine wpAny_bind (wpAny_setField he2 hd2 (by simp) ?_)
  refine wpAny_bind (wpAny_setField he3 hd3 (by simp) ?_)
  have hT4 : ({ s with heap := (h'.update e2 (Obj.mapFields (·.setIfInBounds 3 (Value.ref e)))).update e2 (Obj.mapFields (·.setIfInBounds 4 (Value.bool true))) } : Shared).TypeIs (.ref e2) Y := ⟨_, he4, (Obj.cls_mapFields _ _).trans ((Obj.cls_mapFields _ _).trans hcls2)⟩
  have hek : ((h'.update e2 (Obj.mapFields (·.setIfInBounds 3 (Value.ref e)))).update e2 (Obj.mapFields (·.setIfInBounds 4 (Value.bool true)))).get? e = _ := ((Heap.get?_update_other _ _ hne).trans (Heap.get?_update_other _ _ hne)).trans he1
  refine wpAny_bind (m := isType (.type Y)) (wpAny_pure ?_)
  rw [if_pos rfl]
  refine wpAny_bind (wpAny_holding ?_)
  unfold raisedFor
  first | (simp only [Bool.false_eq_true, if_false]) | (rw [if_neg (by decide)]) | skip
  first | (refine wpAny_bind (wpAny_typeOf hT4 ?_)) | (refine wpAny_bind ?_; refine wpAny_bind (wpAny_typeOf hT4 ?_))
  refine wpAny_bind (call_issubclass (issubclass_self hY hself) ?_)
  first | (refine wpAny_bind (wpAny_truthy_bool ?_)) | (refine wpAny_truthy_bool ?_) | (dsimp only [wants]; first | (refine wpAny_bind (wpAny_truthy_bool ?_)) | (refine wpAny_truthy_bool ?_))
  first | (rw [if_pos rfl]) | (simp only [if_true]) | skip
  refine wpAny_pure ?_
  unfold setFlight raiseNew
  refine wpAny_bind (wpAny_bind (wpAny_field (i := 1) (x := Value.none) he4 hd4 (by simp) ?_))
  rw [if_neg (by decide)]
  refine wpAny_pure (wpAny_bind (wpAny_handled ?_))
  rw [hh]
  dsimp only
  rw [if_pos (by simp [Ne.symm hne])]
  refine wpAny_bind (wpAny_holding (wpAny_runValue (code_unchain hek rfl ?_)))
  have hd5 := Obj.data_mapFields hd4 (·.setIfInBounds 2 (Value.ref e))
  have he5 := Heap.get?_update_self (Obj.mapFields (·.setIfInBounds 2 (Value.ref e))) he4 (Obj.isFreed_of_fields hd5)
  have hst : wpAny (model prog w) A (setField (.ref e2) 2 (.ref e)) (fun _ s' => E (.ref e2) s') E { s with heap := (h'.update e2 (Obj.mapFields (·.setIfInBounds 3 (Value.ref e)))).update e2 (Obj.mapFields (·.setIfInBounds 4 (Value.bool true))) } := by
    refine wpAny_setField he4 hd4 (by simp) ?_
    refine h _ e2 (fun b o hb => ?_) hn.new ⟨_, t2, he5, ?_, ?_⟩
    · have hb2 : e2 ≠ b := fun q => by have := hn.new; rw [q, hb] at this; cases this
      exact (((Heap.get?_update_other _ _ hb2).trans (Heap.get?_update_other _ _ hb2)).trans (Heap.get?_update_other _ _ hb2)).trans (hn.keeps b o hb)
    · exact (Obj.cls_mapFields _ _).trans ((Obj.cls_mapFields _ _).trans ((Obj.cls_mapFields _ _).trans hcls2))
    · rw [hd5]; rfl
  exact wpAny_bind (wpAny_mono hst (fun _ _ x => wpAny_throw x) fun _ _ x => x)
end

theorem funFrames_set {base h h' : Heap} {L : Addr} {m : Str → Option Value} (hn : h'.Ns L m) (hs : Heap.SameBut L h h') : ∀ {l : List Env}, h.FunFrames base l → h'.FunFrames base l
  | [], _ => trivial
  | env :: _, ⟨hk, ⟨L', o, hf, hb, ho, hd⟩, hr⟩ => by
    refine ⟨hk, ?_, funFrames_set hn hs hr⟩
    by_cases q : L' = L
    · subst q
      obtain ⟨o', es, ep, ho', hd', _⟩ := hn
      exact ⟨L', o', hf, hb, ho', fun vs z => by rw [hd'] at z; cases z⟩
    · exact ⟨L', o, hf, hb, (hs.2 _ q).trans ho, hd⟩

theorem stays_set {base h h' : Heap} {L : Addr} (k : base.StaysIn h) (hL : base.get? L = none) (hs : Heap.SameBut L h h') : base.StaysIn h' := fun b o hb => (hs.2 b fun q => by rw [q, hL] at hb; cases hb).trans (k b o hb)

theorem up_set {g h h' : Heap} {L : Addr} (k : g.UpToSlots h) (hL : g.get? L = none) (hs : Heap.SameBut L h h') : g.UpToSlots h' := fun b o hb hn => by
  obtain ⟨sl, q⟩ := k b o hb hn
  exact ⟨sl, (hs.2 b fun z => by rw [z, hL] at hb; cases hb).trans q⟩

theorem not_rec {h : Heap} {L e : Addr} {o : Obj} {vs : Array Value} {m : Str → Option Value} (hn : h.Ns L m) (he : h.get? e = some o) (hd : o.data = .fields vs) : e ≠ L := fun q => by
  obtain ⟨o', es, ep, ho', hd', _⟩ := hn
  rw [q, ho'] at he
  injection he with he
  subst he
  rw [hd'] at hd
  cases hd

section
variable {M : Model} {A : Around} {E : Value → Shared → Prop} {s : Shared}
theorem flight_held {base : Heap} {l : List Env} {e L : Addr} {cls a0 : Value} {Q : Unit → Shared → Prop} (R : Heap.HeldW base l e cls a0 L s.heap)
    (h : ∀ h', Heap.HeldW base l e cls a0 L h' → s.heap.UpToSlots h' → Q () { s with heap := h' }) : wpAny M A (setFlight (.ref e) (some L)) Q E s := by
  obtain ⟨hkb, hen, hl, oe, vs, T, oT, ts, he, hcls, hd, h1, hnT, hTe, hT, hdT, h3⟩ := R
  have hsz3 : 3 < ts.size := (Array.getElem?_eq_some_iff.mp h3).1
  have other : ∀ b, b ≠ T → (s.heap.update T (Obj.mapFields (·.setIfInBounds 3 ((some L).elim Value.none fun f => rawInt f)))).get? b = s.heap.get? b :=
    fun b hb => Heap.get?_update_other _ _ (Ne.symm hb)
  have noRecord : ∀ b o, s.heap.get? b = some o → (∀ vs, o.data ≠ .fields vs) → b ≠ T := fun b o hb hnf q => by
    rw [q, hT] at hb; injection hb with hb; subst hb; exact hnf ts hdT
  unfold setFlight
  refine wpAny_bind (wpAny_field he hd h1 ?_)
  rw [if_pos (show (Value.ref T != Value.none) = true from by simp)]
  refine wpAny_setField hT hdT hsz3 (h _ ⟨fun b o hbo => (other b fun q => by rw [q, hnT] at hbo; cases hbo).trans (hkb b o hbo), hen,
    hl.of_keeps fun b o hb hnf => ⟨o, (other b (noRecord b o hb hnf)).trans hb, rfl⟩, ?_⟩ fun b o hb hnf => ⟨o.slots, (other b (noRecord b o hb hnf)).trans hb⟩)
  exact ⟨oe, vs, T, _, _, (other e (Ne.symm hTe)).trans he, hcls, hd, h1, hnT, hTe, Heap.get?_update_self _ hT (Obj.isFreed_of_fields (Obj.data_mapFields hdT _)), Obj.data_mapFields hdT _, by simp [hsz3]⟩

theorem note_any {base : Heap} {env : Env} {outer : List Env} {L e : Addr} {oe : Obj} {vs : Array Value} {a0 : Value} {Q : Unit → Shared → Prop}
    (hfr : A.frames = some (env :: outer)) (hl : s.heap.FunFrames base (env :: outer)) (hf : env.frame = some L)
    (he : s.heap.get? e = some oe) (hkb : base.StaysIn s.heap) (hen : base.get? e = none) (hd : oe.data = .fields vs) (h1 : vs[1]? = some .none) (h0 : vs[0]? = some a0)
    (h : ∀ h', Heap.HeldW base (env :: outer) e oe.cls a0 L h' → s.heap.UpToSlots h' → Q () { s with heap := h' }) : wpAny M A (noteFrame (.ref e) env) Q E s := by
  unfold noteFrame
  simp only [hf]
  refine wpAny_bind (wpAny_field he hd h1 ?_)
  rw [if_neg (by decide)]
  exact wpAny_entryW hfr hl hf he hkb hen hd (Array.getElem?_eq_some_iff.mp h1).1 h0 fun h' ⟨k1, k2, k3, k4⟩ => h h' ⟨k1, hen, k2, k3⟩ k4

theorem held_tb {base h : Heap} {l : List Env} {e L : Addr} {cls a0 : Value} (R : Heap.HeldW base l e cls a0 L h) : ∃ oe vs T, h.get? e = some oe ∧ oe.data = .fields vs ∧ vs[1]? = some (.ref T) := by
  obtain ⟨_, _, _, oe, vs, T, _, _, he, _, hd, h1, _⟩ := R
  exact ⟨oe, vs, T, he, hd, h1⟩

theorem held_set {base h h' : Heap} {l : List Env} {e L L' : Addr} {cls a0 : Value} {m m' : Str → Option Value} (R : Heap.HeldW base l e cls a0 L' h) (hL : base.get? L = none) (hn : h.Ns L m) (hn' : h'.Ns L m') (hs : Heap.SameBut L h h') : Heap.HeldW base l e cls a0 L' h' := by
  obtain ⟨hkb, hen, hl, oe, vs, T, oT, ts, he, hcls, hd, h1, hnT, hTe, hT, hdT, h3⟩ := R
  exact ⟨stays_set hkb hL hs, hen, funFrames_set hn' hs hl, oe, vs, T, oT, ts, (hs.2 _ (not_rec hn he hd)).trans he, hcls, hd, h1, hnT, hTe, (hs.2 _ (not_rec hn hT hdT)).trans hT, hdT, h3⟩
end

section
variable {prog : Program} {w : World} {A₀ : Around} {s' : Shared} {base g h : Heap} {outer : List Env} {L a e : Addr} {m : Str → Option Value} {name : Str} {scope : Scope} {cd : Value}
  {n : Str} {pos np yp zp rp : Pos} {Q : Flow → Shared → Prop} {Q1 : Value → Unit → Shared → Prop} {E : Value → Shared → Prop} {E1 : Value → Value → Shared → Prop} {news : List (Addr × Obj)} {KF : Frag}
  {p : Program} {loose : List Str} {mean : ExcName → Option Value} {mg mb : Str → Option Value} {x y : Str} {X Y N I N' I' : String}

/-- a def's own exception, caught in it, and another raised from it -/
theorem try_from (hx : Heap.NewExc h s'.heap e X) (F : Fr g L h m) (K : Below A₀ base outer g) (Nw : News g L h news) (XB : KF.In base) (TB₀ : Top p loose mean mg mb base)
    (ex : nsIn KF mainGlobals x = some none) (hv : bootBuiltins x = some (.type X)) (hn' : x ≠ "__name__")
    (ey : nsIn KF mainGlobals y = some none) (hvy : bootBuiltins y = some (.type Y)) (hny : y ≠ "__name__")
    (hX : ExcClass X N' I') (hY : ExcClass Y N I) (hself : isSubtype (.type Y) (.type Y) = pure true)
    (hnt : isSubtype (.type ((Manifest.find? X).elim "type" fun y => y.metatype)) (.type "tuple") = pure false) (hsub : isSubtype (.type X) (.type X) = pure true)
    (hQ : ∀ h' tk e2, RaisedSN base g outer e2 (.type Y) news h' → RaisedN base outer e2 (.type Y) news h' → g.UpToSlots h' → Q1 (.ref e2) () { s' with heap := h', toks := tk })
    (hE : ∀ v s₄, wpAny (model prog w) (A₀.deeper (envOf name scope L a cd)) (leaving (envOf name scope L a cd) v) (Q1 v) (E1 v) s₄ → E v s₄)
    (hk : scope.kind = .function := by rfl) (hlo : (envOf name scope L a cd).kindOf n = some .local := by rfl) (hxk : (envOf name scope L a cd).kindOf x = some .globalImplicit := by rfl) (hyk : (envOf name scope L a cd).kindOf y = some .globalImplicit := by rfl)
    (hxd : (x == ("__debug__" : Str)) = false := by decide) (hyd : (y == ("__debug__" : Str)) = false := by decide) (hnd : (n == ("__debug__" : Str)) = false := by decide) :
    wpAny (model prog w) (A₀.deeper (envOf name scope L a cd)) (noteFrame (.ref e) (envOf name scope L a cd))
      (fun _ s₂ => wpAny (model prog w) (A₀.deeper (envOf name scope L a cd)) (setFlight (.ref e) none) (fun _ s₃ =>
        wpAny (model prog w) (A₀.deeper (envOf name scope L a cd)) (handleBy (.ref e) (envOf name scope L a cd) [.ExceptHandler (some (.Name x np)) (some n) [.Raise (some (.Name y yp)) (some (.Name n zp)) rp] pos]) Q
          E s₃)
          E s₂)
      E s' := by
  have K' := K.push (name := name) (a := a) (cd := cd) F hk
  have hin : ∀ env ∈ (envOf name scope L a cd :: outer), ∀ b, env.frame = some b → b ∈ (envOf name scope L a cd :: outer).filterMap (·.frame) := fun env he b hb => List.mem_filterMap.mpr ⟨env, he, hb⟩
  generalize hB : hideAll h ((envOf name scope L a cd :: outer).filterMap (·.frame)) = B
  have sB : ∀ b o, h.get? b = some o → b ∉ (envOf name scope L a cd :: outer).filterMap (·.frame) → B.get? b = some o := fun b o q nm => hB ▸ hideAll_get _ q nm
  have ofB : ∀ b o, B.get? b = some o → h.get? b = some o := fun b o q => of_hideAll _ (hB ▸ q)
  have st : base.StaysIn B := fun b o q => sB b o (K'.stays b o q) fun hm => by
    rw [(K'.frames.mem hm).1] at q; cases q
  have sg : ∀ b o, g.get? b = some o → b ∉ outer.filterMap (·.frame) → B.get? b = some o := fun b o q nm => sB b o (F.keep b o q) fun hm => by
    rcases kts_mem hm with z | z
    · rw [z, kts_self F] at q
      cases q
    · exact nm z
  have hl : ∀ q ∈ news, B.get? q.1 = some q.2 ∧ g.get? q.1 = none ∧ base.get? q.1 = none := fun q hq => by
    refine ⟨sB _ _ (Nw q hq).1 fun hm => ?_, (Nw q hq).2.2, fresh_of_stays K.stays (Nw q hq).2.2⟩
    obtain ⟨env, he, hf⟩ := List.mem_filterMap.mp hm
    rcases List.mem_cons.mp he with rfl | he
    · exact (Nw q hq).2.1 (Option.some.inj hf).symm
    · obtain ⟨o, ho, _⟩ := (K.frames.mem (List.mem_filterMap.mpr ⟨env, he, hf⟩)).2
      rw [(Nw q hq).2.2] at ho; cases ho
  have hLB : B.get? L = none := hB ▸ hideAll_none _ (hin _ (.head _) L rfl)
  obtain ⟨ob, tp, he, hcls, hd⟩ := hx.there
  have hen : ∀ b, h.get? b = none → B.get? b = none := fun b hb => by
    cases q : B.get? b with
    | none => rfl
    | some o => have := ofB _ _ q; rw [hb] at this; cases this
  have kB : B.StaysIn s'.heap := fun b o hb => hx.keeps b o (ofB _ _ hb)
  have fB : s'.heap.FunFrames B (envOf name scope L a cd :: outer) := (hB ▸ funFrames_hide K'.frames hin : h.FunFrames B _).of_keeps fun b o hb _ => ⟨o, hx.keeps b o hb, rfl⟩
  refine note_first (base := B) (Around.frames_deeper K.stack) fB rfl he kB (hen _ hx.new) hd fun h₁ T k1 f1 t1 u1 => ?_
  refine flight_none k1 f1 t1 fun h₂ k2 f2 t2 u2 => ?_
  have u02 : h.UpToSlots h₂ := (Heap.UpToSlots.of_keeps hx.keeps).trans (u1.trans u2)
  obtain ⟨g₅, T₅, F₅, K₅⟩ := kts_ground (B := B) K F sB k2 u02
  have X₅ : KF.In g₅ := XB.keeps K₅.stays
  have P₅ : TopRead p loose mg mb g₅ := topRead_of (TB₀.keeps K₅.stays)
  have t2' := t2
  obtain ⟨oe2, _, _, heo, hce, _⟩ := t2'
  refine wpAny_handleBy_builtin_as (X := X) (T := X) (b := true) hX.base hnt hsub (name_B F₅ X₅ P₅ ex hv hn' ⟨rfl, ⟨oe2, heo, hce.trans hcls⟩, ?_⟩ hk hxk hxd)
  rw [if_pos rfl]
  refine flight_none k2 f2 t2 fun h₃ k3 f3 t3 u3 => ?_
  have u03 := u02.trans u3
  obtain ⟨g₆, T₆, F₆, K₆⟩ := kts_ground (B := B) K F sB k3 u03
  have X₆ : KF.In g₆ := XB.keeps K₆.stays
  have P₆ : TopRead p loose mg mb g₆ := topRead_of (TB₀.keeps K₆.stays)
  refine wpAny_storeName_local hlo F₆.ns (fun h₄ n₄ b₄ => ?_) (by show (scope.kind == .class || (scope.kind == .module && L != mainGlobals)) = false; rw [hk]; rfl)
  have F₇ : Fr g₆ L h₄ _ := F₆.set n₄ b₄
  obtain ⟨oe3, oT3, ts3, he3, hc3, hd3, hnT3, hTe3, hT3, hdT3, h33⟩ := t3
  have he4 : h₄.get? e = some oe3 := (b₄.2 _ (not_rec F₆.ns he3 hd3)).trans he3
  have k4 : B.StaysIn h₄ := stays_set k3 hLB b₄
  have f4 : h₄.FunFrames B (envOf name scope L a cd :: outer) := funFrames_set n₄ b₄ f3
  have hgL : g.get? L = none := kts_self F
  have u4 : g.UpToSlots h₄ := up_set ((Heap.UpToSlots.of_keeps F.keep).trans u03) hgL b₄
  refine wpAny_execs_cons ?_
  show wpAny (model prog w) _ (do standAt rp; raiseStmt (envOf name scope L a cd) (some (do let v ← eval (.Name y yp) (envOf name scope L a cd); standAt rp; pure v)) (some (do let v ← eval (.Name n zp) (envOf name scope L a cd); standAt rp; pure v))) _ _ _
  refine wpAny_bind (wpAny_standAt ?_)
  refine raise_core hY hself hX rfl he4 (hc3.trans hcls) hd3 (fun hq => wpAny_bind (name_B F₇ X₆ P₆ ey hvy hny (wpAny_bind (wpAny_standAt (wpAny_pure hq))) hk hyk hyd))
    (fun hq => wpAny_bind (ld F₇ (if_pos rfl) (wpAny_bind (wpAny_standAt (wpAny_pure hq))) hk hlo hnd)) fun h₅ e2 k5 n5 ⟨o5, t5, he5, hc5, hd5⟩ => ?_
  have hen5 : B.get? e2 = none := by
    cases q : B.get? e2 with
    | none => rfl
    | some o => have := k4 _ _ q; rw [n5] at this; cases this
  refine note_any (base := B) (Around.frames_deeper K.stack) (f4.of_keeps fun b o hb _ => ⟨o, k5 b o hb, rfl⟩) rfl he5 (fun b o hb => k5 b o (k4 b o hb)) hen5 hd5 rfl rfl fun h₆ R₆ u6 => ?_
  rw [hc5] at R₆
  have u46 : h₄.UpToSlots h₆ := (Heap.UpToSlots.of_keeps k5).trans u6
  have n₆ := u46.ns n₄
  refine wpAny_nameGoes hlo n₆ (by show (scope.kind == .class || (scope.kind == .module && L != mainGlobals)) = false; rw [hk]; rfl) fun h₇ m₇ n₇ b₇ => ?_
  have R₇ := held_set R₆ hLB n₆ n₇ b₇
  have u7 : g.UpToSlots h₇ := up_set (u4.trans u46) hgL b₇
  obtain ⟨o7, vs7, T7, he7, hd7, h17⟩ := held_tb R₇
  unfold PySem.passOn
  refine wpAny_bind (wpAny_field he7 hd7 h17 ?_)
  rw [if_neg (show ¬ ((Value.ref T7 == Value.none) = true) from by simp)]
  refine wpAny_bind (flight_held R₇ fun h₈ R₈ u8 => wpAny_throw ?_)
  refine wpAny_noteFrame_againW rfl R₈.2.2.2 ?_
  obtain ⟨o8, vs8, T8, he8, hd8, h18⟩ := held_tb R₈
  refine wpAny_bind (wpAny_field he8 hd8 h18 ?_)
  rw [if_neg (show ¬ ((Value.ref T8 == Value.none) = true) from by simp)]
  refine flight_held R₈ fun h₉ R₉ u9 => ?_
  refine hE _ _ ?_
  unfold leaving
  refine wpAny_bind (wpAny_noteFrame_againW rfl R₉.2.2.2 ?_)
  refine wpAny_landsW R₉ fun h' hfl hs => ?_
  obtain ⟨j1, j2, ⟨_, _, j3⟩, j4⟩ := hfl
  have R : RaisedSN base g outer e2 (.type Y) news h' := ⟨B, _, st, sg, hl, j1, j2, j3, j4⟩
  exact hQ h' _ e2 R R.toN (u7.trans ((u8.trans u9).trans hs))
end
end Mine
end
open PySem PySem.W PyProof.Rows
set_option maxRecDepth 100000
set_option maxHeartbeats 8000000
namespace Mine
open_top hd for PySem.Challenge.rw_ak5014_01
/-- behind the head: the lines for a top sleep again -/
theorem top_off : True := by
  w_top off
  trivial
local macro_rules | `(tactic| cell_enter) => `(tactic| (refine' code_def ?k1 ?k2 ?k3 ?k4 ?k5 ?kA ?kF ?kK ?k6 ?k7 ?k8 ?k9 ?kB ?_ ?c2 ?c3 ?c4 ?c5; (case kA => exact rfl); (case kF => exact rfl); (case kK => assumption); (case k1 => k_asm); (case k2 => k_asm); (case k3 => k_asm); (case k4 => k_asm); (case k5 => k_asm); (case k6 => k_is); (case k7 => k_is); (case k8 => ktr_room); (case k9 => first | exact BindsTo.of_eq rfl | exact binds_K (by k_in) rfl (by k_is) rfl rfl rfl); (case c5 => decide); (case kB => exact locs rfl); (case c2 => exact rfl); (case c3 => exact rfl); (case c4 => exact rfl); k_whole; intro g' L' h' FG' F' N' B' X' T'; (try dsimp only); (try k_lift B'); (try k_fold)))
local macro_rules | `(tactic| walk_at "binaryOp Sub float float") => `(tactic| ((refine' w_sub_ff ?k1 ?k2 ?k3 ?_; (case k1 => (with_reducible first | exact rfl | exact k_half | exact k_onehalf | exact k_1524 | exact k_epoch | exact k_sark)); (case k2 => (with_reducible first | exact rfl | exact k_half | exact k_onehalf | exact k_1524 | exact k_epoch | exact k_sark)); (case k3 => omega)); (try dsimp only)))
local macro_rules | `(tactic| walk_at "inplaceOp Add float float") => `(tactic| ((refine' w_iadd_ff ?k1 ?k2 ?k3 ?_; (case k1 => (with_reducible first | exact rfl | exact k_half | exact k_onehalf | exact k_1524 | exact k_epoch | exact k_sark)); (case k2 => (with_reducible first | exact rfl | exact k_half | exact k_onehalf | exact k_1524 | exact k_epoch | exact k_sark)); (case k3 => omega)); (try dsimp only)))
local macro_rules | `(tactic| walk_at "binaryOp Sub float int") => `(tactic| ((refine' w_sub_fi ?k1 ?k3 ?_; (case k1 => (with_reducible first | exact rfl | exact k_half | exact k_onehalf | exact k_1524 | exact k_epoch | exact k_sark)); (case k3 => omega)); (try dsimp only)))
local macro_rules | `(tactic| walk_at "binaryOp Add float int") => `(tactic| ((refine' w_add_fi ?k1 ?k3 ?_; (case k1 => (with_reducible first | exact rfl | exact k_half | exact k_onehalf | exact k_1524 | exact k_epoch | exact k_sark)); (case k3 => omega)); (try dsimp only)))
local macro_rules | `(tactic| walk_at "binaryOp Sub int float") => `(tactic| ((refine' w_sub_iF ?k3 ?_; (case k3 => omega)); (try dsimp only)))
local macro_rules | `(tactic| walk_at "binaryOp Sub int float") => `(tactic| ((refine' w_sub_if ?k1 ?k3 ?_; (case k1 => (with_reducible first | exact rfl | exact k_half | exact k_onehalf | exact k_1524 | exact k_epoch | exact k_sark)); (case k3 => omega)); (try dsimp only)))
local macro_rules | `(tactic| walk_at "binaryOp Div float float") => `(tactic| ((refine' w_div_ff ?k1 ?k2 ?_; (case k1 => with_unfolding_all decide +kernel); (case k2 => with_unfolding_all exact rfl)); (try dsimp only)))
local macro_rules | `(tactic| walk_at "binaryOp Div float int") => `(tactic| ((refine' w_div_fi ?k1 ?k2 ?_; (case k1 => omega); (case k2 => with_unfolding_all exact rfl)); (try dsimp only)))
local macro_rules | `(tactic| walk_at "binaryOp Div int float") => `(tactic| ((refine' w_div_if ?k1 ?k3 ?k2 ?_; (case k1 => omega); (case k3 => with_unfolding_all decide +kernel); (case k2 => with_unfolding_all exact rfl)); (try dsimp only)))
local macro_rules | `(tactic| walk_at "binaryOp Div int int") => `(tactic| ((refine' w_div_ii ?k1 ?k2 ?_; (case k1 => omega); (case k2 => with_unfolding_all exact rfl)); (try dsimp only)))
local macro_rules | `(tactic| walk_at "binaryOp Mult float int") => `(tactic| ((refine' w_mul_fi ?k1 ?_; (case k1 => omega)); (try dsimp only)))
local macro_rules | `(tactic| walk_at "binaryOp Mod float int") => `(tactic| ((refine' w_mod_fi ?k1 ?k3 ?k2 ?_; (case k1 => (with_reducible first | exact rfl | exact k_half | exact k_onehalf | exact k_1524 | exact k_epoch | exact k_sark)); (case k3 => omega); (case k2 => with_unfolding_all exact rfl)); (try dsimp only)))
local macro_rules | `(tactic| walk_at "compareOp Lt float int") => `(tactic| ((refine' w_lt_fi ?k1 ?k3 ?_; (case k1 => (with_reducible first | exact rfl | exact k_half | exact k_onehalf | exact k_1524 | exact k_epoch | exact k_sark)); (case k3 => omega))))
local macro_rules | `(tactic| walk_at "compareOp Eq float int") => `(tactic| ((refine' w_eq_fi ?k1 ?k3 ?_; (case k1 => (with_reducible first | exact rfl | exact k_half | exact k_onehalf | exact k_1524 | exact k_epoch | exact k_sark)); (case k3 => omega))))
local macro_rules | `(tactic| walk_at "compareOp NotEq float float") => `(tactic| ((refine' w_ne_ff ?k1 ?k2 ?k3 ?_; (case k1 => (with_reducible first | exact rfl | exact k_half | exact k_onehalf | exact k_1524 | exact k_epoch | exact k_sark)); (case k2 => (with_reducible first | exact rfl | exact k_half | exact k_onehalf | exact k_1524 | exact k_epoch | exact k_sark)); (case k3 => omega))))
local macro_rules | `(tactic| walk_at "call builtin:math.trunc") => `(tactic| ((with_reducible show wpAny _ _ (call _ [Value.float _ _]) _ _ _); (refine' w_trunc ?k1 ?k2 ?_; (case k1 => ((first | (with_reducible refine' whole_hf ?_ ?_) | (with_reducible refine' whole_div365 ?_ ?_) | (with_reducible refine' whole_div_int ?_ ?_ ?_ ?_) | (with_reducible refine' whole_qf ?_ ?_ ?_ ?_) | (with_reducible refine' whole_mul365 ?_ ?_) | (with_reducible refine' whole_jc ?_ ?_) | (with_reducible refine' whole_e ?_ ?_) | (with_reducible refine' whole_mul306 ?_ ?_)) <;> omega)); (case k2 => with_unfolding_all exact rfl)); (try dsimp only)))
local macro_rules | `(tactic| walk_at "call builtin:math.floor") => `(tactic| ((with_reducible show wpAny _ _ (call _ [Value.float _ _]) _ _ _); (refine' w_floor ?k1 ?k2 ?_; (case k1 => ((first | (with_reducible refine' whole_hf ?_ ?_) | (with_reducible refine' whole_div365 ?_ ?_) | (with_reducible refine' whole_div_int ?_ ?_ ?_ ?_) | (with_reducible refine' whole_qf ?_ ?_ ?_ ?_) | (with_reducible refine' whole_mul365 ?_ ?_) | (with_reducible refine' whole_jc ?_ ?_) | (with_reducible refine' whole_e ?_ ?_) | (with_reducible refine' whole_mul306 ?_ ?_)) <;> omega)); (case k2 => with_unfolding_all exact rfl)); (try dsimp only)))
local macro_rules | `(tactic| k_room) => `(tactic| ktr_room)
local macro_rules | `(tactic| walk_at "compareOp In int ref") => `(tactic| (k_here; k_dflt (refine' w_in30 (tupK ?kX ?kl) ?ki ?_; (case kX => k_in); (case kl => k_is); (case ki => (repeat constructor)); k_whole)))
local macro_rules | `(tactic| walk_at "subscriptTail Name BinOp ref int") => `(tactic| ((with_reducible show wpAny _ _ (subscriptTail _ _ (Value.ref _) (Value.int _ _)) _ _ _); (with_unfolding_all refine' w_item12 ?k1 ?k2 ?k3 ?_; (case k1 => is_list); (case k2 => l_intsW); (case k3 => omega); k_whole); intro _))
local macro_rules | `(tactic| ktr_enter) => `(tactic| (refine' code_try ?k1 ?k2 ?k3 ?k4 ?k5 ?kA ?kF ?kK ?k6 ?k7 ?k8 ?k9 ?kB ?_ ?c2 ?c3 ?c4 ?c5; (case kA => exact rfl); (case kF => exact rfl); (case kK => assumption); (case k1 => k_asm); (case k2 => k_asm); (case k3 => k_asm); (case k4 => k_asm); (case k5 => k_asm); (case k6 => k_is); (case k7 => k_is); (case k8 => ktr_room); (case k9 => first | exact BindsTo.of_eq rfl | exact binds_K (by k_in) rfl (by k_is) rfl rfl rfl); (case c5 => decide); (case kB => exact locs rfl); (case c2 => exact rfl); (case c3 => exact rfl); (case c4 => exact rfl); k_whole; intro g' L' h' FG' F' N' B' X' T' D'; (try dsimp only); (try k_lift B'); (try k_fold)))
local macro_rules | `(tactic| walk_at "subscriptTail Name BinOp ref int") => `(tactic| ((with_reducible show wpAny _ _ (subscriptTail _ _ (Value.ref _) (Value.int _ _)) _ _ _); (with_unfolding_all refine' w_item13 ?k1 ?k2 ?k3 ?_; (case k1 => is_list); (case k2 => l_intsW); (case k3 => omega); k_whole); intro hj9 _))
local macro_rules | `(tactic| walk_at "subscriptTail Name Constant ref int") => `(tactic| ((with_reducible show wpAny _ _ (subscriptTail _ _ (Value.ref _) (Value.int _ _)) _ _ _); (with_unfolding_all refine' w_num ?k1 ?k2 ?k3 ?_; (case k1 => is_list); (case k2 => assumption); (case k3 => decide); k_whole); intro hb9 _; (simp only [Int.reduceToNat] at hb9 ⊢)))
local macro_rules | `(tactic| walk_at "storeName") => `(tactic| ((with_reducible show wpAny _ _ (storeName _ _ (Value.bool (_ == _))) _ _ _); (with_reducible refine w_boolcase ?_ ?_) <;> intro hc9))
local macro_rules | `(tactic| walk_at "call builtin:sum") => `(tactic| (k_here; (with_reducible show wpAny _ _ (call (Value.builtin "sum") [Value.ref _]) _ _ _); (with_unfolding_all refine' w_sum13 ?k0 ?k1 ?k2 ?k3 ?k4 ?k5 ?_; (case k0 => with_unfolding_all rfl); (case k1 => k_asm); (case k2 => k_asm); (case k3 => is_list); (case k4 => assumption); (case k5 => omega); k_whole); intro h' tk' t' F' N'))
noncomputable abbrev VW := hd.view_39
noncomputable abbrev LS := looseW hd.view_39
    [Str.ofString "leap_julian", Str.ofString "month_length", Str.ofString "month_length_julian",
        Str.ofString "from_jd", Str.ofString "from_jd_julian", Str.ofString "to_jd", Str.ofString "to_jd_julian",
        Str.ofString "_valid_date", Str.ofString "leap_armenian", Str.ofString "to_jd_armenian",
        Str.ofString "from_jd_armenian", Str.ofString "to_julian", Str.ofString "from_julian",
        Str.ofString "month_length_armenian"]
noncomputable abbrev PR := PySem.Challenge.rw_ak5014_01.row.prog

/-- what a call of ours is told under -/
abbrev Con (w : World) (f : Addr) (vs : List Value) (R : Heap → Addr → (Str → Option Value) → List (Addr × Obj) → Shared → (Value → Shared → Prop) → (Value → Shared → Prop) → Prop) : Prop :=
  ∀ (mean : ExcName → Option Value) (mg mb : Str → Option Value) (news : List (Addr × Obj)) (dp un : Nat) (gd : Option (List Code)) (cn : Str) (cs : Scope) (a : Addr) (ccd : Value) (cl : List (Str × Addr)) (outer : List Env) (A₀ : Around) (base h₀ : Heap) (L : Addr) (m : Str → Option Value) (s : Shared) (Q E : Value → Shared → Prop),
    Below A₀ base outer h₀ → Fr h₀ L s.heap m → (hd.heap_39 w.params).In h₀ → News h₀ L s.heap news → Top VW LS mean mg mb h₀ → cs.kind = .function → dp < 500 → un < 1000 → R h₀ L m news s Q E →
      wpAny (model PR w) (ktrTop dp un gd cn cs L a ccd cl outer) (call (.ref f) vs) Q E s

/-- the same, of a function that calls on such ones -/
abbrev Con2 (w : World) (f : Addr) (vs : List Value) (R : Heap → Addr → (Str → Option Value) → List (Addr × Obj) → Shared → (Value → Shared → Prop) → (Value → Shared → Prop) → Prop) : Prop :=
  ∀ (mean : ExcName → Option Value) (mg mb : Str → Option Value) (news : List (Addr × Obj)) (dp un : Nat) (gd : Option (List Code)) (cn : Str) (cs : Scope) (a : Addr) (ccd : Value) (cl : List (Str × Addr)) (outer : List Env) (A₀ : Around) (base h₀ : Heap) (L : Addr) (m : Str → Option Value) (s : Shared) (Q E : Value → Shared → Prop),
    Below A₀ base outer h₀ → Fr h₀ L s.heap m → (hd.heap_39 w.params).In h₀ → News h₀ L s.heap news → Top VW LS mean mg mb h₀ → cs.kind = .function → dp < 400 → un < 900 → R h₀ L m news s Q E →
      wpAny (model PR w) (ktrTop dp un gd cn cs L a ccd cl outer) (call (.ref f) vs) Q E s

abbrev RTup3 (P : Int → Int → Int → Prop) (h₀ : Heap) (L : Addr) (m : Str → Option Value) (news : List (Addr × Obj)) (s : Shared) (Q _E : Value → Shared → Prop) : Prop :=
  ∀ (a b c : Int), P a b c → ∀ (D : Addr) (t1 t2 t3 : Tok) (k : Nat) (h' : Heap) (tk' : Nat), Fr h₀ L h' m → News h₀ L h' ((D, ({ cls := .type "tuple", data := .seq #[.int a t1, .int b t2, .int c t3] k } : Obj)) :: news) → AllLt D news → Q (.ref D) { s with heap := h', toks := tk' }


abbrev RFlt (k : Int) (h₀ : Heap) (L : Addr) (m : Str → Option Value) (news : List (Addr × Obj)) (s : Shared) (Q _E : Value → Shared → Prop) : Prop :=
  ∀ (t : Tok) (h' : Heap) (tk' : Nat), Fr h₀ L h' m → News h₀ L h' news → Q (.float (hf k) t) { s with heap := h', toks := tk' }
theorem ret_hf {k k' : Int} {h₀ h' : Heap} {L : Addr} {m : Str → Option Value} {news : List (Addr × Obj)} {s : Shared} {Q : Value → Shared → Prop} {t : Tok} {tk' : Nat}
    (hret : ∀ (t : Tok) (h' : Heap) (tk' : Nat), Fr h₀ L h' m → News h₀ L h' news → Q (.float (hf k) t) { s with heap := h', toks := tk' }) (e : k' = k) (F : Fr h₀ L h' m) (N : News h₀ L h' news) :
    Q (.float (hf k') t) { s with heap := h', toks := tk' } := by subst e; exact hret t h' tk' F N
abbrev RRef (h₀ : Heap) (L : Addr) (m : Str → Option Value) (news : List (Addr × Obj)) (s : Shared) (Q _E : Value → Shared → Prop) : Prop :=
  ∀ (t : Tok) (h' : Heap) (tk' : Nat), Fr h₀ L h' m → News h₀ L h' news → Q (.str (Str.ofString "refused") t) { s with heap := h', toks := tk' }
/-- the same, of one that catches; called by the law itself -/
abbrev ConA (w : World) (f : Addr) (vs : List Value) (R : Heap → Addr → (Str → Option Value) → List (Addr × Obj) → Shared → (Value → Shared → Prop) → (Value → Shared → Prop) → Prop) : Prop :=
  ∀ (mean : ExcName → Option Value) (mg mb : Str → Option Value) (news : List (Addr × Obj)) (dp un : Nat) (gd : Option (List Code)) (cn : Str) (cs : Scope) (a : Addr) (ccd : Value) (cl : List (Str × Addr)) (A₀ : Around) (base h₀ : Heap) (L : Addr) (m : Str → Option Value) (s : Shared) (Q E : Value → Shared → Prop),
    Below A₀ base [] h₀ → Fr h₀ L s.heap m → (hd.heap_39 w.params).In h₀ → News h₀ L s.heap news → Top VW LS mean mg mb h₀ → (hd.heap_39 w.params).In base → Top VW LS mean mg mb base → cs.kind = .function → dp < 400 → un < 900 → R h₀ L m news s Q E →
      wpAny (model PR w) (ktrTop dp un gd cn cs L a ccd cl []) (call (.ref f) vs) Q E s
abbrev RInt (P : Int → Prop) (h₀ : Heap) (L : Addr) (m : Str → Option Value) (news : List (Addr × Obj)) (s : Shared) (Q _E : Value → Shared → Prop) : Prop :=
  ∀ (v : Int), P v → ∀ (t : Tok) (h' : Heap) (tk' : Nat), Fr h₀ L h' m → News h₀ L h' news → Q (.int v t) { s with heap := h', toks := tk' }
abbrev RLen (P : Int → Prop) (h₀ : Heap) (L : Addr) (m : Str → Option Value) (news : List (Addr × Obj)) (s : Shared) (Q _E : Value → Shared → Prop) : Prop :=
  ∀ (x : Int), P x → ∀ (D : Addr) (t1 t2 t3 t4 t5 t6 t7 t8 t9 t10 t11 t12 t13 : Tok) (h' : Heap) (tk' : Nat), Fr h₀ L h' m → News h₀ L h' ((D, listOf #[.int 30 t1, .int 30 t2, .int 30 t3, .int 30 t4, .int 30 t5, .int 30 t6, .int 30 t7, .int 30 t8, .int 30 t9, .int 30 t10, .int 30 t11, .int 30 t12, .int x t13] 0) :: news) → AllLt D news → Q (.ref D) { s with heap := h', toks := tk' }
theorem c_fromjd_s (w : World) (N : Int) (t u : Tok) (h0 : 2117212 ≤ N) (h1 : N ≤ 12200000) : Con w 109 [.float (hf (2 * N - 1)) t, .str (Str.ofString "sarkawag") u] (RTup3 (PS N)) := by
  unfold Con PR VW LS
  k_fill
  unfold RTup3
  intros
  rename_i hret
  refine wpAny_call ?_
  k_dflt cell_enter
  k_steps
  all_goals (refine' hret _ _ _ ?kp _ _ _ _ _ _ _ ?kF ?kN ?kL; (case kF => k_asm); (case kN => k_asm); (case kL => exact allLt_of (by assumption)); (case kp => (unfold PS firstS; (try law_fm); omega)))
theorem c_fromjd_m (w : World) (N : Int) (t u : Tok) (h0 : 1922868 ≤ N) (h1 : N ≤ 12200000) : Con w 109 [.float (hf (2 * N - 1)) t, .str (Str.ofString "moveable") u] (RTup3 (PM N)) := by
  unfold Con PR VW LS
  k_fill
  unfold RTup3
  intros
  rename_i hret
  refine wpAny_call ?_
  k_dflt cell_enter
  k_steps
  all_goals (refine' hret _ _ _ ?kp _ _ _ _ _ _ _ ?kF ?kN ?kL; (case kF => k_asm); (case kN => k_asm); (case kL => exact allLt_of (by assumption)); (case kp => (unfold PM firstM; (try law_fm); omega)))
theorem c_fromjd_n (w : World) (N : Int) (t : Tok) (h0 : 1922868 ≤ N) (h1 : N ≤ 12200000) : Con w 109 [.float (hf (2 * N - 1)) t, .none] (RTup3 (PM N)) := by
  unfold Con PR VW LS
  k_fill
  unfold RTup3
  intros
  rename_i hret
  refine wpAny_call ?_
  k_dflt cell_enter
  k_steps
  all_goals (refine' hret _ _ _ ?kp _ _ _ _ _ _ _ ?kF ?kN ?kL; (case kF => k_asm); (case kN => k_asm); (case kL => exact allLt_of (by assumption)); (case kp => (unfold PM firstM; (try law_fm); omega)))
theorem c_fromjul (w : World) (N : Int) (t : Tok) (h0 : 1922868 ≤ N) (h1 : N ≤ 12200000) : Con w 71 [.float (hf (2 * N - 1)) t] (RTup3 (PJ N)) := by
  unfold Con PR VW LS
  k_fill
  unfold RTup3
  intros
  rename_i hret
  refine wpAny_call ?_
  k_dflt cell_enter
  k_steps
  all_goals (refine' hret _ _ _ ?kp _ _ _ _ _ _ _ ?kF ?kN ?kL; (case kF => k_asm); (case kN => k_asm); (case kL => exact allLt_of (by assumption)); (case kp => first | exact PJ_a2 (by omega) h0 h1 (by omega) | exact PJ_b2 (by omega) h0 h1 (by omega)))
theorem c_tojul (w : World) (N y m d : Int) (t1 t2 t3 : Tok) (h0 : 1922868 ≤ N) (h1 : N ≤ 12200000) (hP : PJ N y m d) : Con w 78 [.int y t1, .int m t2, .int d t3] (RFlt (2 * N - 1)) := by
  obtain ⟨a1, a2, a3, a4, a5, a6, a7⟩ := id hP
  have l2 : (m ≠ 2 ∨ d ≤ 29) ∧ (m ≠ 2 ∨ y % 4 = 0 ∨ d ≤ 28) := by
    by_cases h : m = 2
    case neg => omega
    subst h
    unfold jlen at a4
    simp only [if_true] at a4
    split at a4 <;> omega
  have l30 : (m ≠ 4 ∧ m ≠ 6 ∧ m ≠ 9 ∧ m ≠ 11) ∨ d ≤ 30 := by
    by_cases h : (m = 4 ∨ m = 6 ∨ m = 9 ∨ m = 11)
    case neg => omega
    right
    unfold jlen at a4
    rw [if_neg (by omega), if_pos h] at a4
    exact a4
  have l31 : d ≤ 31 := Int.le_trans a4 (jlen_le _ _)
  unfold Con PR VW LS
  k_fill
  unfold RFlt
  intros
  rename_i hret
  refine wpAny_call ?_
  k_dflt cell_enter
  k_steps
  all_goals first | (rw [PJ_to_a hP (by omega)]; refine' hret _ _ _ ?kF ?kN; (case kF => k_asm); (case kN => k_asm)) | (rw [PJ_to_b hP (by omega)]; refine' hret _ _ _ ?kF ?kN; (case kF => k_asm); (case kN => k_asm))
theorem c_lawjul (w : World) (N : Int) (t : Tok) (h0 : 1922868 ≤ N) (h1 : N ≤ 12200000) : Con w 154 [.int N t] (RTup3 (PJ N)) := by
  unfold Con PR VW LS
  k_fill
  unfold RTup3
  intros
  rename_i hret
  refine wpAny_call ?_
  k_dflt cell_enter
  k_with_none
  k_with "exec While Compare cons nil" => k_while (fun _ day year length => 0 ≤ day ∧ ((year = 4 * (N / 1461) - 4712 ∧ day = N % 1461 ∧ length = 366) ∨ (4 * (N / 1461) - 4712 < year ∧ day + 1 + 365 * (year - (4 * (N / 1461) - 4712)) = N % 1461 ∧ length = 365))) (fun _ day _ _ => day.toNat) "day" "year" "length"
  k_with "exec While Compare cons nil" => k_while_given ["day!", "year"] (fun day0 year _ day month => 1 ≤ month ∧ month ≤ 12 ∧ 0 ≤ day ∧ JI year day0 day month) (fun _ _ _ day _ => day.toNat) "day" "month"
  k_with "state" => ((try dsimp only); (try law_fm); (try simp only [true_and, and_true, true_or, or_true, and_self]); omega)
  k_with "state" => ((try dsimp only); exact JW_start (by omega) (by omega))
  k_with "state" => ((try dsimp only); (first | ((rename Int.fmod _ 4 = 0 => hq4); rw [f4] at hq4) | ((rename ¬ Int.fmod _ 4 = 0 => hq4); rw [f4] at hq4)); exact JW_turn (by assumption) (by omega) (by omega))
  k_with "measure" => ((try dsimp only); (try law_fm); omega)
  k_with "measure" => ((try dsimp only); exact JM_lt (by decide) (by omega))
  k_steps
  all_goals (refine' hret _ _ _ ?kp _ _ _ _ _ _ _ ?kF ?kN ?kL; (case kF => k_asm); (case kN => (refine' cb_drop ?cbN ?cbS; (case cbN => assumption); (case cbS => kcj_all))); (case kL => exact And.right (And.right (by assumption))); (case kp => ((first | ((rename Int.fmod _ 4 = 0 => hq4); rw [f4] at hq4) | ((rename ¬ Int.fmod _ 4 = 0 => hq4); rw [f4] at hq4)); (try law_fm); first | exact JW_end (x := 29) (by assumption) (by omega) (by omega) h0 h1 ⟨by omega, by omega⟩ | exact JW_end (x := 28) (by assumption) (by omega) (by omega) h0 h1 ⟨by omega, by omega⟩)))
theorem c_tojd_s (w : World) (N y m d : Int) (t1 t2 t3 t4 : Tok) (hP : PS N y m d) : Con w 101 [.int y t1, .int m t2, .int d t3, .str (Str.ofString "sarkawag") t4] (RFlt (2 * N - 1)) := by
  have hU := hP
  unfold PS firstS at hU
  unfold Con PR VW LS
  k_fill
  unfold RFlt
  intros
  rename_i hret
  refine wpAny_call ?_
  k_dflt cell_enter
  k_with_none
  k_steps
  all_goals (refine' ret_hf hret ?ke ?kF ?kN; (case kF => k_asm); (case kN => k_asm); (case ke => omega))
theorem c_tojd_m (w : World) (N y m d : Int) (t1 t2 t3 t4 : Tok) (hP : PM N y m d) : Con w 101 [.int y t1, .int m t2, .int d t3, .str (Str.ofString "moveable") t4] (RFlt (2 * N - 1)) := by
  have hU := hP
  unfold PM firstM at hU
  unfold Con PR VW LS
  k_fill
  unfold RFlt
  intros
  rename_i hret
  refine wpAny_call ?_
  k_dflt cell_enter
  k_with_none
  k_steps
  all_goals (refine' ret_hf hret ?ke ?kF ?kN; (case kF => k_asm); (case kN => k_asm); (case ke => omega))
theorem c_tojd_n (w : World) (N y m d : Int) (t1 t2 t3 : Tok) (hP : PM N y m d) : Con w 101 [.int y t1, .int m t2, .int d t3, .none] (RFlt (2 * N - 1)) := by
  have hU := hP
  unfold PM firstM at hU
  unfold Con PR VW LS
  k_fill
  unfold RFlt
  intros
  rename_i hret
  refine wpAny_call ?_
  k_dflt cell_enter
  k_with_none
  k_steps
  all_goals (refine' ret_hf hret ?ke ?kF ?kN; (case kF => k_asm); (case kN => k_asm); (case ke => omega))
theorem c_asked0_s (w : World) (n : Int) (t0 t1 t2 t3 t4 : Tok) (h0 : -10000001 < n) (h1 : n < 0) : ConA w 161 [.int 0 t0, .float (hf (4234421 + 2 * n)) t1, .int 0 t2, .int 0 t3, .str (Str.ofString "sarkawag") t4] RRef := by
  unfold ConA PR VW LS
  k_fill
  unfold RRef
  intros
  rename_i hret
  refine wpAny_call ?_
  k_dflt ktr_enter
  k_with_none
  k_steps
  all_goals (refine' hret _ _ _ ?kF ?kN; (case kF => k_asm); (case kN => first | k_asm | (refine' cb_drop ?cbN ?cbS; (case cbN => assumption); (case cbS => kcj_all))))
theorem c_asked0_m (w : World) (n : Int) (t0 t1 t2 t3 t4 : Tok) (h0 : -10000001 < n) (h1 : n < 0) : ConA w 161 [.int 0 t0, .float (hf (3845003 + 2 * n)) t1, .int 0 t2, .int 0 t3, .str (Str.ofString "moveable") t4] RRef := by
  unfold ConA PR VW LS
  k_fill
  unfold RRef
  intros
  rename_i hret
  refine wpAny_call ?_
  k_dflt ktr_enter
  k_with_none
  k_steps
  all_goals (refine' hret _ _ _ ?kF ?kN; (case kF => k_asm); (case kN => first | k_asm | (refine' cb_drop ?cbN ?cbS; (case cbN => assumption); (case cbS => kcj_all))))
theorem c_asked0_n (w : World) (n : Int) (t0 t1 t2 t3 : Tok) (h0 : -10000001 < n) (h1 : n < 0) : ConA w 161 [.int 0 t0, .float (hf (3845003 + 2 * n)) t1, .int 0 t2, .int 0 t3, .none] RRef := by
  unfold ConA PR VW LS
  k_fill
  unfold RRef
  intros
  rename_i hret
  refine wpAny_call ?_
  k_dflt ktr_enter
  k_with_none
  k_steps
  all_goals (refine' hret _ _ _ ?kF ?kN; (case kF => k_asm); (case kN => first | k_asm | (refine' cb_drop ?cbN ?cbS; (case cbN => assumption); (case cbS => kcj_all))))
theorem c_asked2_s (w : World) (y : Int) (t0 t1 t2 t3 t4 : Tok) : ConA w 161 [.int 2 t0, .int y t1, .int 14 t2, .int 0 t3, .str (Str.ofString "sarkawag") t4] RRef := by
  unfold ConA PR VW LS
  k_fill
  unfold RRef
  intros
  rename_i hret
  refine wpAny_call ?_
  k_dflt ktr_enter
  k_with_none
  k_steps
  all_goals (refine' hret _ _ _ ?kF ?kN; (case kF => k_asm); (case kN => first | k_asm | (refine' cb_drop ?cbN ?cbS; (case cbN => assumption); (case cbS => kcj_all))))
theorem c_asked2_m (w : World) (y : Int) (t0 t1 t2 t3 t4 : Tok) : ConA w 161 [.int 2 t0, .int y t1, .int 14 t2, .int 0 t3, .str (Str.ofString "moveable") t4] RRef := by
  unfold ConA PR VW LS
  k_fill
  unfold RRef
  intros
  rename_i hret
  refine wpAny_call ?_
  k_dflt ktr_enter
  k_with_none
  k_steps
  all_goals (refine' hret _ _ _ ?kF ?kN; (case kF => k_asm); (case kN => first | k_asm | (refine' cb_drop ?cbN ?cbS; (case cbN => assumption); (case cbS => kcj_all))))
theorem c_asked2_n (w : World) (y : Int) (t0 t1 t2 t3 : Tok) : ConA w 161 [.int 2 t0, .int y t1, .int 14 t2, .int 0 t3, .none] RRef := by
  unfold ConA PR VW LS
  k_fill
  unfold RRef
  intros
  rename_i hret
  refine wpAny_call ?_
  k_dflt ktr_enter
  k_with_none
  k_steps
  all_goals (refine' hret _ _ _ ?kF ?kN; (case kF => k_asm); (case kN => first | k_asm | (refine' cb_drop ?cbN ?cbS; (case cbN => assumption); (case cbS => kcj_all))))
theorem PS_mk {y m d : Int} (h : 533 ≤ y ∧ y ≤ 20000000 ∧ 1 ≤ m ∧ m ≤ 13 ∧ 1 ≤ d ∧ d ≤ 30 ∧ (m ≠ 13 ∨ d ≤ 6) ∧ (m ≠ 13 ∨ y % 4 = 0 ∨ d ≤ 5)) : PS (firstS y + 30 * (m - 1) + d - 1) y m d := by unfold PS; omega
theorem PM_mk {y m d : Int} (h : 1 ≤ y ∧ y ≤ 20000000 ∧ 1 ≤ m ∧ m ≤ 13 ∧ 1 ≤ d ∧ d ≤ 30 ∧ (m ≠ 13 ∨ d ≤ 5)) : PM (firstM y + 30 * (m - 1) + d - 1) y m d := by unfold PM; omega
theorem firstS_bd {y v : Int} (h : v = firstS y) (h0 : -30000000 < y) (h1 : y < 30000000) : -20000000000 < v ∧ v < 20000000000 := by unfold firstS at h; omega
theorem firstM_bd {y v : Int} (h : v = firstM y) (h0 : -30000000 < y) (h1 : y < 30000000) : -20000000000 < v ∧ v < 20000000000 := by unfold firstM at h; omega
/-- a month's length, as the program says it -/
def mlS (y m : Int) : Int := if m = 13 then (if y % 4 = 0 then 6 else 5) else 30
def mlM (m : Int) : Int := if m = 13 then 5 else 30
abbrev RVal (v : Int) (h₀ : Heap) (L : Addr) (m : Str → Option Value) (news : List (Addr × Obj)) (s : Shared) (Q _E : Value → Shared → Prop) : Prop :=
  ∀ (t : Tok) (h' : Heap) (tk' : Nat), Fr h₀ L h' m → News h₀ L h' news → Q (.int v t) { s with heap := h', toks := tk' }
theorem ret_val {k k' : Int} {h₀ h' : Heap} {L : Addr} {m : Str → Option Value} {news : List (Addr × Obj)} {s : Shared} {Q : Value → Shared → Prop} {t : Tok} {tk' : Nat}
    (hret : ∀ (t : Tok) (h' : Heap) (tk' : Nat), Fr h₀ L h' m → News h₀ L h' news → Q (.int k t) { s with heap := h', toks := tk' }) (e : k' = k) (F : Fr h₀ L h' m) (N : News h₀ L h' news) :
    Q (.int k' t) { s with heap := h', toks := tk' } := by subst e; exact hret t h' tk' F N
theorem c_mlen_s (w : World) (y m : Int) (t1 t2 t3 : Tok) (h0 : 533 ≤ y) (h1 : 1 ≤ m ∧ m ≤ 13) : Con w 133 [.int y t1, .int m t2, .str (Str.ofString "sarkawag") t3] (RVal (mlS y m)) := by
  unfold Con PR VW LS
  k_fill
  unfold RVal
  intros
  rename_i hret
  refine wpAny_call ?_
  k_dflt cell_enter
  k_with_none
  k_steps
  all_goals (refine' ret_val hret ?kp ?kF ?kN; (case kF => k_asm); (case kN => k_asm); (case kp => (unfold mlS; (try dsimp only) <;> (try law_fm) <;> (try (rename Int.fmod _ 4 = 0 => h; rw [f4] at h)) <;> (repeat' split) <;> omega)))
theorem c_mlen_m (w : World) (y m : Int) (t1 t2 t3 : Tok) (h1 : 1 ≤ m ∧ m ≤ 13) : Con w 133 [.int y t1, .int m t2, .str (Str.ofString "moveable") t3] (RVal (mlM m)) := by
  unfold Con PR VW LS
  k_fill
  unfold RVal
  intros
  rename_i hret
  refine wpAny_call ?_
  k_dflt cell_enter
  k_with_none
  k_steps
  all_goals (refine' ret_val hret ?kp ?kF ?kN; (case kF => k_asm); (case kN => k_asm); (case kp => (unfold mlM; (repeat' split) <;> omega)))
theorem c_mlen_n (w : World) (y m : Int) (t1 t2 : Tok) (h1 : 1 ≤ m ∧ m ≤ 13) : Con w 133 [.int y t1, .int m t2, .none] (RVal (mlM m)) := by
  unfold Con PR VW LS
  k_fill
  unfold RVal
  intros
  rename_i hret
  refine wpAny_call ?_
  k_dflt cell_enter
  k_with_none
  k_steps
  all_goals (refine' ret_val hret ?kp ?kF ?kN; (case kF => k_asm); (case kN => k_asm); (case kp => (unfold mlM; (repeat' split) <;> omega)))
theorem c_first_s (w : World) (y : Int) (t : Tok) (h0 : -30000000 < y) (h1 : y < 30000000) : Con w 140 [.bool true, .int y t] (RInt (fun v => v = firstS y)) := by
  unfold Con PR VW LS
  k_fill
  unfold RInt
  intros
  rename_i hret
  refine wpAny_call ?_
  k_dflt cell_enter
  k_with_none
  k_steps
  all_goals (refine' hret _ ?kp _ _ _ ?kF ?kN; (case kF => k_asm); (case kN => (refine' cb_drop ?cbN ?cbS; (case cbN => assumption); (case cbS => kcj_all))); (case kp => (unfold firstS; (try dsimp only) <;> (try law_fm) <;> omega)))
theorem c_first_m (w : World) (y : Int) (t : Tok) (h0 : -30000000 < y) (h1 : y < 30000000) : Con w 140 [.bool false, .int y t] (RInt (fun v => v = firstM y)) := by
  unfold Con PR VW LS
  k_fill
  unfold RInt
  intros
  rename_i hret
  refine wpAny_call ?_
  k_dflt cell_enter
  k_with_none
  k_steps
  all_goals (refine' hret _ ?kp _ _ _ ?kF ?kN; (case kF => k_asm); (case kN => (refine' cb_drop ?cbN ?cbS; (case cbN => assumption); (case cbS => kcj_all))); (case kp => first | exact rfl | (unfold firstM; (try dsimp only) <;> (try law_fm) <;> omega)))
theorem c_len_s (w : World) (y : Int) (t : Tok) : Con w 147 [.bool true, .int y t] (RLen (fun x => y % 4 = 0 ∧ x = 6 ∨ y % 4 ≠ 0 ∧ x = 5)) := by
  unfold Con PR VW LS
  k_fill
  unfold RLen
  intros
  rename_i hret
  refine wpAny_call ?_
  k_dflt cell_enter
  k_with_none
  k_steps
  all_goals (refine' hret _ ?kp _ _ _ _ _ _ _ _ _ _ _ _ _ _ _ _ ?kF ?kN ?kL; (case kF => k_asm); (case kN => k_asm); (case kL => exact allLt_of (by assumption)); (case kp => first | exact rfl | ((try dsimp only) <;> (try law_fm) <;> (try simp only [and_true, true_and, and_false, false_and, or_false, false_or]) <;> omega)))
theorem c_len_m (w : World) (y : Int) (t : Tok) : Con w 147 [.bool false, .int y t] (RLen (fun x => x = 5)) := by
  unfold Con PR VW LS
  k_fill
  unfold RLen
  intros
  rename_i hret
  refine wpAny_call ?_
  k_dflt cell_enter
  k_with_none
  k_steps
  all_goals (refine' hret _ ?kp _ _ _ _ _ _ _ _ _ _ _ _ _ _ _ _ ?kF ?kN ?kL; (case kF => k_asm); (case kN => k_asm); (case kL => exact allLt_of (by assumption)); (case kp => first | exact rfl | ((try dsimp only) <;> (try law_fm) <;> (try simp only [and_true, true_and, and_false, false_and, or_false, false_or]) <;> omega)))
abbrev RBool (b : Bool) (h₀ : Heap) (L : Addr) (m : Str → Option Value) (news : List (Addr × Obj)) (s : Shared) (Q _E : Value → Shared → Prop) : Prop :=
  ∀ (h' : Heap) (tk' : Nat), Fr h₀ L h' m → News h₀ L h' news → Q (.bool b) { s with heap := h', toks := tk' }
theorem ret_bool {k k' : Bool} {h₀ h' : Heap} {L : Addr} {m : Str → Option Value} {news : List (Addr × Obj)} {s : Shared} {Q : Value → Shared → Prop} {tk' : Nat}
    (hret : ∀ (h' : Heap) (tk' : Nat), Fr h₀ L h' m → News h₀ L h' news → Q (.bool k) { s with heap := h', toks := tk' }) (e : k' = k) (F : Fr h₀ L h' m) (N : News h₀ L h' news) :
    Q (.bool k') { s with heap := h', toks := tk' } := by subst e; exact hret h' tk' F N
theorem c_leap (w : World) (y : Int) (t : Tok) : Con w 93 [.int y t] (RBool (decide (533 ≤ y ∧ y % 4 = 0))) := by
  unfold Con PR VW LS
  k_fill
  unfold RBool
  intros
  rename_i hret
  refine wpAny_call ?_
  k_dflt cell_enter
  k_with_none
  k_steps
  all_goals (refine' ret_bool hret ?ke ?kF ?kN; (case kF => k_asm); (case kN => k_asm); (case ke => (rw [Bool.eq_iff_iff]; (simp only [beq_iff_eq, decide_eq_true_eq, f4, Bool.false_eq_true, false_iff]); omega)))
local macro_rules | `(tactic| walk_at "call ref") => `(tactic| (k_here; (with_unfolding_all refine' c_tojd_s _ _ _ _ _ _ _ _ _ ?kp _ _ _ _ _ _ _ _ _ _ _ _ _ _ _ _ _ _ _ _ _ ?k1 ?k2 ?k3 ?k4 ?k5 ?kK ?kd ?ku ?_; (case kp => assumption); (case k1 => k_asm); (case k2 => k_asm); (case k3 => k_asm); (case k4 => k_asm); (case k5 => k_asm); (case kK => first | exact rfl | assumption); (case kd => ktr_room); (case ku => ktr_units); k_whole); intro t9 h9 tk9 F9 N9; (try dsimp only); (try k_fold)))
local macro_rules | `(tactic| walk_at "call ref") => `(tactic| (k_here; (with_unfolding_all refine' c_tojd_m _ _ _ _ _ _ _ _ _ ?kp _ _ _ _ _ _ _ _ _ _ _ _ _ _ _ _ _ _ _ _ _ ?k1 ?k2 ?k3 ?k4 ?k5 ?kK ?kd ?ku ?_; (case kp => assumption); (case k1 => k_asm); (case k2 => k_asm); (case k3 => k_asm); (case k4 => k_asm); (case k5 => k_asm); (case kK => first | exact rfl | assumption); (case kd => ktr_room); (case ku => ktr_units); k_whole); intro t9 h9 tk9 F9 N9; (try dsimp only); (try k_fold)))
local macro_rules | `(tactic| walk_at "call ref") => `(tactic| (k_here; (with_unfolding_all refine' c_tojd_n _ _ _ _ _ _ _ _ ?kp _ _ _ _ _ _ _ _ _ _ _ _ _ _ _ _ _ _ _ _ _ ?k1 ?k2 ?k3 ?k4 ?k5 ?kK ?kd ?ku ?_; (case kp => assumption); (case k1 => k_asm); (case k2 => k_asm); (case k3 => k_asm); (case k4 => k_asm); (case k5 => k_asm); (case kK => first | exact rfl | assumption); (case kd => ktr_room); (case ku => ktr_units); k_whole); intro t9 h9 tk9 F9 N9; (try dsimp only); (try k_fold)))
local macro_rules | `(tactic| walk_at "call ref") => `(tactic| (k_here; (with_unfolding_all refine' c_fromjul _ _ _ ?kp ?kq _ _ _ _ _ _ _ _ _ _ _ _ _ _ _ _ _ _ _ _ _ ?k1 ?k2 ?k3 ?k4 ?k5 ?kK ?kd ?ku ?_; (case kp => omega); (case kq => omega); (case k1 => k_asm); (case k2 => k_asm); (case k3 => k_asm); (case k4 => k_asm); (case k5 => k_asm); (case kK => first | exact rfl | assumption); (case kd => ktr_room); (case ku => ktr_units); k_whole); intro a9 b9 c9 hP9 D9 t91 t92 t93 k9 h9 tk9 F9 N9 L9; (try simp only [AllLt, and_true] at L9); (try dsimp only); (try k_fold)))
theorem c_tojulian_s (w : World) (N y m d : Int) (t1 t2 t3 t4 : Tok) (h0 : 1922868 ≤ N) (h1 : N ≤ 12200000) (hP : PS N y m d) : Con2 w 117 [.int y t1, .int m t2, .int d t3, .str (Str.ofString "sarkawag") t4] (RTup3 (PJ N)) := by
  unfold Con2 PR VW LS
  k_fill
  unfold RTup3
  intros
  rename_i hret
  refine wpAny_call ?_
  k_dflt cell_enter
  k_with_none
  k_steps
  all_goals (refine' hret _ _ _ ?kp _ _ _ _ _ _ _ ?kF ?kN ?kL; (case kF => k_asm); (case kN => k_asm); (case kL => assumption); (case kp => assumption))
theorem c_tojulian_m (w : World) (N y m d : Int) (t1 t2 t3 t4 : Tok) (h0 : 1922868 ≤ N) (h1 : N ≤ 12200000) (hP : PM N y m d) : Con2 w 117 [.int y t1, .int m t2, .int d t3, .str (Str.ofString "moveable") t4] (RTup3 (PJ N)) := by
  unfold Con2 PR VW LS
  k_fill
  unfold RTup3
  intros
  rename_i hret
  refine wpAny_call ?_
  k_dflt cell_enter
  k_with_none
  k_steps
  all_goals (refine' hret _ _ _ ?kp _ _ _ _ _ _ _ ?kF ?kN ?kL; (case kF => k_asm); (case kN => k_asm); (case kL => assumption); (case kp => assumption))
theorem c_tojulian_n (w : World) (N y m d : Int) (t1 t2 t3 : Tok) (h0 : 1922868 ≤ N) (h1 : N ≤ 12200000) (hP : PM N y m d) : Con2 w 117 [.int y t1, .int m t2, .int d t3, .none] (RTup3 (PJ N)) := by
  unfold Con2 PR VW LS
  k_fill
  unfold RTup3
  intros
  rename_i hret
  refine wpAny_call ?_
  k_dflt cell_enter
  k_with_none
  k_steps
  all_goals (refine' hret _ _ _ ?kp _ _ _ _ _ _ _ ?kF ?kN ?kL; (case kF => k_asm); (case kN => k_asm); (case kL => assumption); (case kp => assumption))
theorem c_asked1_s (w : World) (N y m d : Int) (t0 t1 t2 t3 t4 : Tok) (hP : PS N y m d) : ConA w 161 [.int 1 t0, .int y t1, .int m t2, .int d t3, .str (Str.ofString "sarkawag") t4] (RFlt (2 * N - 1)) := by
  unfold ConA PR VW LS
  k_fill
  unfold RFlt
  intros
  rename_i hret
  refine wpAny_call ?_
  k_dflt ktr_enter
  k_with_none
  k_steps
  all_goals (refine' hret _ _ _ ?kF ?kN; (case kF => k_asm); (case kN => first | k_asm | (refine' cb_drop ?cbN ?cbS; (case cbN => assumption); (case cbS => kcj_all))))
theorem c_asked1_m (w : World) (N y m d : Int) (t0 t1 t2 t3 t4 : Tok) (hP : PM N y m d) : ConA w 161 [.int 1 t0, .int y t1, .int m t2, .int d t3, .str (Str.ofString "moveable") t4] (RFlt (2 * N - 1)) := by
  unfold ConA PR VW LS
  k_fill
  unfold RFlt
  intros
  rename_i hret
  refine wpAny_call ?_
  k_dflt ktr_enter
  k_with_none
  k_steps
  all_goals (refine' hret _ _ _ ?kF ?kN; (case kF => k_asm); (case kN => first | k_asm | (refine' cb_drop ?cbN ?cbS; (case cbN => assumption); (case cbS => kcj_all))))
theorem c_asked1_n (w : World) (N y m d : Int) (t0 t1 t2 t3 : Tok) (hP : PM N y m d) : ConA w 161 [.int 1 t0, .int y t1, .int m t2, .int d t3, .none] (RFlt (2 * N - 1)) := by
  unfold ConA PR VW LS
  k_fill
  unfold RFlt
  intros
  rename_i hret
  refine wpAny_call ?_
  k_dflt ktr_enter
  k_with_none
  k_steps
  all_goals (refine' hret _ _ _ ?kF ?kN; (case kF => k_asm); (case kN => first | k_asm | (refine' cb_drop ?cbN ?cbS; (case cbN => assumption); (case cbS => kcj_all))))
local macro_rules | `(tactic| walk_at "noteFrame ref") => `(tactic| ((with_reducible show wpAny _ _ (noteFrame _ _) (fun _ s₂ => wpAny _ _ (setFlight _ none) (fun _ s₃ => wpAny _ _ (handleBy _ _ [ExceptHandler.ExceptHandler (some (Expr.Name ("AssertionError" : Str) _)) (some _) [Stmt.Raise _ _ _] _]) _ _ s₃) _ s₂) _ _); k_dflt (refine' try_from (X := "AssertionError") (Y := "ValueError") ?k0 ?k2 ?k1 ?k3 ?XB ?TB ?ex PyProof.Rows.Boot.«AssertionError» ?hn ?ey PyProof.Rows.Boot.«ValueError» ?hm excClass_AssertionError excClass_ValueError ?hself PySem.F.notTuple_AssertionError ?hs ?_ ?hE; (case k0 => assumption); (case k2 => assumption); (case k1 => assumption); (case k3 => k_asm); (case XB => assumption); (case TB => assumption); (case ex => k_is); (case hn => decide); (case ey => k_is); (case hm => decide); (case hself => kts_sub); (case hs => kts_sub); (case hE => exact fun _ _ h => h); k_whole); intro h' tk' e2' S' R' U'; (try dsimp only at S' R' U' ⊢)))
theorem c_askedX_s (w : World) (y m d : Int) (t0 t1 t2 t3 t4 : Tok) (hX : (y < 533 ∨ m < 1 ∨ 13 < m ∨ d < 1 ∨ 30 < d ∨ (m = 13 ∧ 6 < d) ∨ (m = 13 ∧ y % 4 ≠ 0 ∧ 5 < d))) : ConA w 161 [.int 1 t0, .int y t1, .int m t2, .int d t3, .str (Str.ofString "sarkawag") t4] RRef := by
  unfold ConA PR VW LS
  k_fill
  unfold RRef
  intros
  rename_i hret
  refine wpAny_call ?_
  k_dflt ktr_enter
  k_with_none
  k_steps
  all_goals (refine' hret _ _ _ ?kF ?kN; (case kF => k_asm); (case kN => first | k_asm | (refine' cb_drop ?cbN ?cbS; (case cbN => assumption); (case cbS => kcj_all))))
theorem c_askedX_m (w : World) (y m d : Int) (t0 t1 t2 t3 t4 : Tok) (hX : (y < 1 ∨ m < 1 ∨ 13 < m ∨ d < 1 ∨ 30 < d ∨ (m = 13 ∧ 5 < d))) : ConA w 161 [.int 1 t0, .int y t1, .int m t2, .int d t3, .str (Str.ofString "moveable") t4] RRef := by
  unfold ConA PR VW LS
  k_fill
  unfold RRef
  intros
  rename_i hret
  refine wpAny_call ?_
  k_dflt ktr_enter
  k_with_none
  k_steps
  all_goals (refine' hret _ _ _ ?kF ?kN; (case kF => k_asm); (case kN => first | k_asm | (refine' cb_drop ?cbN ?cbS; (case cbN => assumption); (case cbS => kcj_all))))
theorem c_askedX_n (w : World) (y m d : Int) (t0 t1 t2 t3 : Tok) (hX : (y < 1 ∨ m < 1 ∨ 13 < m ∨ d < 1 ∨ 30 < d ∨ (m = 13 ∧ 5 < d))) : ConA w 161 [.int 1 t0, .int y t1, .int m t2, .int d t3, .none] RRef := by
  unfold ConA PR VW LS
  k_fill
  unfold RRef
  intros
  rename_i hret
  refine wpAny_call ?_
  k_dflt ktr_enter
  k_with_none
  k_steps
  all_goals (refine' hret _ _ _ ?kF ?kN; (case kF => k_asm); (case kN => first | k_asm | (refine' cb_drop ?cbN ?cbS; (case cbN => assumption); (case cbS => kcj_all))))
local macro_rules | `(tactic| walk_at "call ref") => `(tactic| (k_here; (with_unfolding_all refine' c_fromjd_s _ _ _ _ ?kp ?kq _ _ _ _ _ _ _ _ _ _ _ _ _ _ _ _ _ _ _ _ _ ?k1 ?k2 ?k3 ?k4 ?k5 ?kK ?kd ?ku ?_; (case kp => omega); (case kq => omega); (case k1 => k_asm); (case k2 => k_asm); (case k3 => k_asm); (case k4 => k_asm); (case k5 => k_asm); (case kK => first | exact rfl | assumption); (case kd => ktr_room); (case ku => ktr_units); k_whole); intro a9 b9 c9 hP9 D9 t91 t92 t93 k9 h9 tk9 F9 N9 L9; (try simp only [AllLt, and_true] at L9); (try dsimp only); (try k_fold)))
local macro_rules | `(tactic| walk_at "call ref") => `(tactic| (k_here; (with_unfolding_all refine' c_fromjd_m _ _ _ _ ?kp ?kq _ _ _ _ _ _ _ _ _ _ _ _ _ _ _ _ _ _ _ _ _ ?k1 ?k2 ?k3 ?k4 ?k5 ?kK ?kd ?ku ?_; (case kp => omega); (case kq => omega); (case k1 => k_asm); (case k2 => k_asm); (case k3 => k_asm); (case k4 => k_asm); (case k5 => k_asm); (case kK => first | exact rfl | assumption); (case kd => ktr_room); (case ku => ktr_units); k_whole); intro a9 b9 c9 hP9 D9 t91 t92 t93 k9 h9 tk9 F9 N9 L9; (try simp only [AllLt, and_true] at L9); (try dsimp only); (try k_fold)))
local macro_rules | `(tactic| walk_at "call ref") => `(tactic| (k_here; (with_unfolding_all refine' c_fromjd_n _ _ _ ?kp ?kq _ _ _ _ _ _ _ _ _ _ _ _ _ _ _ _ _ _ _ _ _ ?k1 ?k2 ?k3 ?k4 ?k5 ?kK ?kd ?ku ?_; (case kp => omega); (case kq => omega); (case k1 => k_asm); (case k2 => k_asm); (case k3 => k_asm); (case k4 => k_asm); (case k5 => k_asm); (case kK => first | exact rfl | assumption); (case kd => ktr_room); (case ku => ktr_units); k_whole); intro a9 b9 c9 hP9 D9 t91 t92 t93 k9 h9 tk9 F9 N9 L9; (try simp only [AllLt, and_true] at L9); (try dsimp only); (try k_fold)))
local macro_rules | `(tactic| walk_at "call ref") => `(tactic| (k_here; (with_unfolding_all refine' c_tojul _ _ _ _ _ _ _ _ ?kq ?kr ?kp _ _ _ _ _ _ _ _ _ _ _ _ _ _ _ _ _ _ _ _ _ ?k1 ?k2 ?k3 ?k4 ?k5 ?kK ?kd ?ku ?_; (case kp => assumption); (case kq => omega); (case kr => omega); (case k1 => k_asm); (case k2 => k_asm); (case k3 => k_asm); (case k4 => k_asm); (case k5 => k_asm); (case kK => first | exact rfl | assumption); (case kd => ktr_room); (case ku => ktr_units); k_whole); intro t9 h9 tk9 F9 N9; (try dsimp only); (try k_fold)))
theorem c_fromjulian_s (w : World) (N y m d : Int) (t1 t2 t3 t4 : Tok) (h0 : 2117212 ≤ N) (h1 : N ≤ 12200000) (hP : PJ N y m d) : Con2 w 125 [.int y t1, .int m t2, .int d t3, .str (Str.ofString "sarkawag") t4] (RTup3 (PS N)) := by
  unfold Con2 PR VW LS
  k_fill
  unfold RTup3
  intros
  rename_i hret
  refine wpAny_call ?_
  k_dflt cell_enter
  k_with_none
  k_steps
  all_goals (refine' hret _ _ _ ?kp _ _ _ _ _ _ _ ?kF ?kN ?kL; (case kF => k_asm); (case kN => k_asm); (case kL => assumption); (case kp => assumption))
theorem c_fromjulian_m (w : World) (N y m d : Int) (t1 t2 t3 t4 : Tok) (h0 : 1922868 ≤ N) (h1 : N ≤ 12200000) (hP : PJ N y m d) : Con2 w 125 [.int y t1, .int m t2, .int d t3, .str (Str.ofString "moveable") t4] (RTup3 (PM N)) := by
  unfold Con2 PR VW LS
  k_fill
  unfold RTup3
  intros
  rename_i hret
  refine wpAny_call ?_
  k_dflt cell_enter
  k_with_none
  k_steps
  all_goals (refine' hret _ _ _ ?kp _ _ _ _ _ _ _ ?kF ?kN ?kL; (case kF => k_asm); (case kN => k_asm); (case kL => assumption); (case kp => assumption))
theorem c_fromjulian_n (w : World) (N y m d : Int) (t1 t2 t3 : Tok) (h0 : 1922868 ≤ N) (h1 : N ≤ 12200000) (hP : PJ N y m d) : Con2 w 125 [.int y t1, .int m t2, .int d t3, .none] (RTup3 (PM N)) := by
  unfold Con2 PR VW LS
  k_fill
  unfold RTup3
  intros
  rename_i hret
  refine wpAny_call ?_
  k_dflt cell_enter
  k_with_none
  k_steps
  all_goals (refine' hret _ _ _ ?kp _ _ _ _ _ _ _ ?kF ?kN ?kL; (case kF => k_asm); (case kN => k_asm); (case kL => assumption); (case kp => assumption))
/-- the way's name: p = 1 that of Sarkawag, else the moveable calendar under either of its names -/
def Nm (p : Int) (v : Value) : Prop := p = 1 ∧ (∃ t, v = .str (Str.ofString "sarkawag") t) ∨ p ≠ 1 ∧ ((∃ t, v = .str (Str.ofString "moveable") t) ∨ v = .none)
def PG (p N y m d : Int) : Prop := p = 1 ∧ PS N y m d ∨ p ≠ 1 ∧ PM N y m d
def firstG (p y : Int) : Int := if p = 1 then firstS y else firstM y
/-- the last month's length -/
def LG (p y x : Int) : Prop := p = 1 ∧ y % 4 = 0 ∧ x = 6 ∨ (p ≠ 1 ∨ y % 4 ≠ 0) ∧ x = 5
/-- where a count may stand -/
def NB (p N : Int) : Prop := (p = 1 ∧ 2117212 ≤ N ∨ p ≠ 1 ∧ 1922868 ≤ N) ∧ N ≤ 12200000
/-- what omega needs of a date -/
def DB (p N y m d : Int) : Prop := 1 ≤ y ∧ y ≤ 40000 ∧ (p ≠ 1 ∨ 533 ≤ y) ∧ 1 ≤ m ∧ m ≤ 13 ∧ 1 ≤ d ∧ d ≤ 30 ∧ (m ≠ 13 ∨ d ≤ 5 ∨ p = 1 ∧ y % 4 = 0 ∧ d ≤ 6) ∧ firstG p y + 30 * (m - 1) + d - 1 = N

theorem Con.mono {w : World} {f : Addr} {vs : List Value} {R R' : Heap → Addr → (Str → Option Value) → List (Addr × Obj) → Shared → (Value → Shared → Prop) → (Value → Shared → Prop) → Prop} (h : Con w f vs R)
    (k : ∀ h₀ L m news s Q E, R' h₀ L m news s Q E → R h₀ L m news s Q E) : Con w f vs R' :=
  fun a1 a2 a3 a4 a5 a6 a7 a8 a9 a10 a11 a12 a13 a14 a15 a16 a17 a18 a19 a20 a21 b1 b2 b3 b4 b5 b6 b7 b8 hR => h a1 a2 a3 a4 a5 a6 a7 a8 a9 a10 a11 a12 a13 a14 a15 a16 a17 a18 a19 a20 a21 b1 b2 b3 b4 b5 b6 b7 b8 (k _ _ _ _ _ _ _ hR)
theorem Con2.mono {w : World} {f : Addr} {vs : List Value} {R R' : Heap → Addr → (Str → Option Value) → List (Addr × Obj) → Shared → (Value → Shared → Prop) → (Value → Shared → Prop) → Prop} (h : Con2 w f vs R)
    (k : ∀ h₀ L m news s Q E, R' h₀ L m news s Q E → R h₀ L m news s Q E) : Con2 w f vs R' :=
  fun a1 a2 a3 a4 a5 a6 a7 a8 a9 a10 a11 a12 a13 a14 a15 a16 a17 a18 a19 a20 a21 b1 b2 b3 b4 b5 b6 b7 b8 hR => h a1 a2 a3 a4 a5 a6 a7 a8 a9 a10 a11 a12 a13 a14 a15 a16 a17 a18 a19 a20 a21 b1 b2 b3 b4 b5 b6 b7 b8 (k _ _ _ _ _ _ _ hR)

theorem RTup3.mono {P P' : Int → Int → Int → Prop} (k : ∀ a b c, P a b c → P' a b c) : ∀ h₀ L m news s Q E, RTup3 P' h₀ L m news s Q E → RTup3 P h₀ L m news s Q E :=
  fun _ _ _ _ _ _ _ h a b c hP => h a b c (k a b c hP)
theorem PG_facts {p N y m d : Int} (hN : NB p N) (h : PG p N y m d) : PG p N y m d ∧ DB p N y m d := by
  refine ⟨h, ?_⟩
  unfold NB at hN
  unfold DB firstG
  rcases h with ⟨rfl, h⟩ | ⟨hp, h⟩
  · rw [if_pos rfl]; unfold PS firstS at *; omega
  · rw [if_neg hp]; unfold PM firstM at *; omega
theorem PG_unique {p N y m d y' m' d' : Int} (h : PG p N y m d) (h' : PG p N y' m' d') : y = y' ∧ m = m' ∧ d = d' := by
  rcases h with ⟨hp, h⟩ | ⟨hp, h⟩ <;> rcases h' with ⟨hp', h'⟩ | ⟨hp', h'⟩
  · exact PS_unique h h'
  · exact absurd hp hp'
  · exact absurd hp' hp
  · exact PM_unique h h'
theorem g_fromjd (w : World) (p N : Int) (v : Value) (t : Tok) (hn : Nm p v) (hN : NB p N) : Con w 109 [.float (hf (2 * N - 1)) t, v] (RTup3 (fun y m d => PG p N y m d ∧ DB p N y m d)) := by
  have hN' := hN
  unfold NB at hN'
  rcases hn with ⟨hp, u, rfl⟩ | ⟨hp, ⟨u, rfl⟩ | rfl⟩
  · exact (c_fromjd_s w N t u (by omega) (by omega)).mono (RTup3.mono fun _ _ _ h => PG_facts hN (.inl ⟨hp, h⟩))
  · exact (c_fromjd_m w N t u (by omega) (by omega)).mono (RTup3.mono fun _ _ _ h => PG_facts hN (.inr ⟨hp, h⟩))
  · exact (c_fromjd_n w N t (by omega) (by omega)).mono (RTup3.mono fun _ _ _ h => PG_facts hN (.inr ⟨hp, h⟩))
theorem g_lawjul (w : World) (p N : Int) (t : Tok) (hN : NB p N) : Con w 154 [.int N t] (RTup3 (PJ N)) := by
  unfold NB at hN
  exact c_lawjul w N t (by omega) (by omega)
theorem g_tojd (w : World) (p N y m d : Int) (v : Value) (t1 t2 t3 : Tok) (hn : Nm p v) (hP : PG p N y m d) : Con w 101 [.int y t1, .int m t2, .int d t3, v] (RFlt (2 * N - 1)) := by
  rcases hn with ⟨hp, u, rfl⟩ | ⟨hp, ⟨u, rfl⟩ | rfl⟩ <;> rcases hP with ⟨hp', h⟩ | ⟨hp', h⟩ <;> first | exact absurd hp hp' | exact absurd hp' hp | skip
  · exact c_tojd_s w N y m d t1 t2 t3 u h
  · exact c_tojd_m w N y m d t1 t2 t3 u h
  · exact c_tojd_n w N y m d t1 t2 t3 h
abbrev Same3 (y m d : Int) (a b c : Int) : Prop := a = y ∧ b = m ∧ c = d
theorem g_tojulian (w : World) (p N y m d a b c : Int) (v : Value) (t1 t2 t3 : Tok) (hn : Nm p v) (hN : NB p N) (hP : PG p N y m d) (hJ : PJ N a b c) : Con2 w 117 [.int y t1, .int m t2, .int d t3, v] (RTup3 (Same3 a b c)) := by
  unfold NB at hN
  rcases hn with ⟨hp, u, rfl⟩ | ⟨hp, ⟨u, rfl⟩ | rfl⟩ <;> rcases hP with ⟨hp', h⟩ | ⟨hp', h⟩ <;> first | exact absurd hp hp' | exact absurd hp' hp | skip
  · exact (c_tojulian_s w N y m d t1 t2 t3 u (by omega) (by omega) h).mono (RTup3.mono fun _ _ _ h => PJ_unique h hJ)
  · exact (c_tojulian_m w N y m d t1 t2 t3 u (by omega) (by omega) h).mono (RTup3.mono fun _ _ _ h => PJ_unique h hJ)
  · exact (c_tojulian_n w N y m d t1 t2 t3 (by omega) (by omega) h).mono (RTup3.mono fun _ _ _ h => PJ_unique h hJ)
theorem g_august (w : World) (p N y m d : Int) (v : Value) (t1 t2 t3 : Tok) (hn : Nm p v) (hp : p = 1) (hN : NB p N) (hP : PG p N y m d) : Con2 w 117 [.int y t1, .int 1 t2, .int 1 t3, v] (RTup3 (Same3 (y + 551) 8 11)) := by
  unfold NB at hN
  rcases hn with ⟨_, u, rfl⟩ | ⟨hp', _⟩
  case inr => exact absurd hp hp'
  rcases hP with ⟨_, h⟩ | ⟨hp', _⟩
  case inr => exact absurd hp hp'
  have hb : 533 ≤ y ∧ y ≤ 39000 ∧ firstS y ≤ N ∧ 2117212 ≤ firstS y := by unfold PS at h; unfold firstS at *; omega
  exact (c_tojulian_s w (firstS y) y 1 1 t1 t2 t3 u (by omega) (by omega) (PS_first (by omega) (by omega))).mono (RTup3.mono fun _ _ _ h => PJ_unique h (PJ_august (by omega) (by omega)))
theorem g_fromjulian (w : World) (p N y m d a b c : Int) (v : Value) (t1 t2 t3 : Tok) (hn : Nm p v) (hN : NB p N) (hJ : PJ N a b c) (hP : PG p N y m d) : Con2 w 125 [.int a t1, .int b t2, .int c t3, v] (RTup3 (Same3 y m d)) := by
  unfold NB at hN
  rcases hn with ⟨hp, u, rfl⟩ | ⟨hp, ⟨u, rfl⟩ | rfl⟩
  · exact (c_fromjulian_s w N a b c t1 t2 t3 u (by omega) (by omega) hJ).mono (RTup3.mono fun _ _ _ h => PG_unique (.inl ⟨hp, h⟩) hP)
  · exact (c_fromjulian_m w N a b c t1 t2 t3 u (by omega) (by omega) hJ).mono (RTup3.mono fun _ _ _ h => PG_unique (.inr ⟨hp, h⟩) hP)
  · exact (c_fromjulian_n w N a b c t1 t2 t3 (by omega) (by omega) hJ).mono (RTup3.mono fun _ _ _ h => PG_unique (.inr ⟨hp, h⟩) hP)
theorem g_first (w : World) (p y : Int) (t : Tok) (h : -30000000 < y ∧ y < 30000000) : Con w 140 [.bool (decide (p = 1)), .int y t] (RInt (fun v => v = firstG p y)) := by
  by_cases hp : p = 1
  · rw [decide_eq_true hp]; unfold firstG; rw [if_pos hp]; exact c_first_s w y t h.1 h.2
  · rw [decide_eq_false hp]; unfold firstG; rw [if_neg hp]; exact c_first_m w y t h.1 h.2
theorem g_len (w : World) (p y : Int) (t : Tok) : Con w 147 [.bool (decide (p = 1)), .int y t] (RLen (LG p y)) := by
  unfold LG
  by_cases hp : p = 1
  · rw [decide_eq_true hp]; exact (c_len_s w y t).mono fun _ _ _ _ _ _ _ h x hx => h x (by omega)
  · rw [decide_eq_false hp]; exact (c_len_m w y t).mono fun _ _ _ _ _ _ _ h x hx => h x (by omega)
/-- a month's length -/
def mlG (p y m : Int) : Int := if m = 13 then (if p = 1 ∧ y % 4 = 0 then 6 else 5) else 30
theorem g_mlen (w : World) (p N y m d k : Int) (v : Value) (t1 t2 : Tok) (hn : Nm p v) (hD : DB p N y m d) (hk : 1 ≤ k ∧ k ≤ 13) : Con w 133 [.int y t1, .int k t2, v] (RVal (mlG p y k)) := by
  unfold DB at hD
  rcases hn with ⟨hp, u, rfl⟩ | ⟨hp, ⟨u, rfl⟩ | rfl⟩
  · have e : mlG p y k = mlS y k := by unfold mlG mlS; simp [hp]
    rw [e]; exact c_mlen_s w y k t1 t2 u (by omega) hk
  · have e : mlG p y k = mlM k := by unfold mlG mlM; simp [hp]
    rw [e]; exact c_mlen_m w y k t1 t2 u hk
  · have e : mlG p y k = mlM k := by unfold mlG mlM; simp [hp]
    rw [e]; exact c_mlen_n w y k t1 t2 hk
theorem g_asked2 (w : World) (p y : Int) (v : Value) (t0 t1 t2 t3 : Tok) (hn : Nm p v) : ConA w 161 [.int 2 t0, .int y t1, .int 14 t2, .int 0 t3, v] RRef := by
  rcases hn with ⟨hp, u, rfl⟩ | ⟨hp, ⟨u, rfl⟩ | rfl⟩
  · exact c_asked2_s w y t0 t1 t2 t3 u
  · exact c_asked2_m w y t0 t1 t2 t3 u
  · exact c_asked2_n w y t0 t1 t2 t3
/-- a date of the calendar -/
def VG (p y m d : Int) : Prop := (p = 1 ∧ 533 ≤ y ∨ p ≠ 1 ∧ 1 ≤ y) ∧ y ≤ 20000000 ∧ 1 ≤ m ∧ m ≤ 13 ∧ 1 ≤ d ∧ d ≤ 30 ∧ (m ≠ 13 ∨ d ≤ 5 ∨ p = 1 ∧ y % 4 = 0 ∧ d ≤ 6)
/-- none of the calendar -/
def XG (p y m d : Int) : Prop := (p = 1 ∧ y < 533 ∨ p ≠ 1 ∧ y < 1) ∨ m < 1 ∨ 13 < m ∨ d < 1 ∨ 30 < d ∨ (m = 13 ∧ (6 < d ∨ 5 < d ∧ (p ≠ 1 ∨ y % 4 ≠ 0)))
theorem g_asked1 (w : World) (p y m d : Int) (v : Value) (t0 t1 t2 t3 : Tok) (hn : Nm p v) (hV : VG p y m d) : ConA w 161 [.int 1 t0, .int y t1, .int m t2, .int d t3, v] (RFlt (2 * (firstG p y + 30 * (m - 1) + d - 1) - 1)) := by
  unfold VG at hV
  rcases hn with ⟨hp, u, rfl⟩ | ⟨hp, ⟨u, rfl⟩ | rfl⟩
  · have e : firstG p y = firstS y := if_pos hp
    rw [e]; exact c_asked1_s w _ y m d t0 t1 t2 t3 u (PS_mk (by omega))
  · have e : firstG p y = firstM y := if_neg hp
    rw [e]; exact c_asked1_m w _ y m d t0 t1 t2 t3 u (PM_mk (by omega))
  · have e : firstG p y = firstM y := if_neg hp
    rw [e]; exact c_asked1_n w _ y m d t0 t1 t2 t3 (PM_mk (by omega))
theorem g_askedX (w : World) (p y m d : Int) (v : Value) (t0 t1 t2 t3 : Tok) (hn : Nm p v) (hX : XG p y m d) : ConA w 161 [.int 1 t0, .int y t1, .int m t2, .int d t3, v] RRef := by
  unfold XG at hX
  rcases hn with ⟨hp, u, rfl⟩ | ⟨hp, ⟨u, rfl⟩ | rfl⟩
  · exact c_askedX_s w y m d t0 t1 t2 t3 u (by omega)
  · exact c_askedX_m w y m d t0 t1 t2 t3 u (by omega)
  · exact c_askedX_n w y m d t0 t1 t2 t3 (by omega)
theorem g_early (w : World) (p x n : Int) (v : Value) (t0 t1 t2 t3 : Tok) (hn : Nm p v) (hx : p = 1 ∧ x = 4234421 ∨ p ≠ 1 ∧ x = 3845003) (h0 : -10000001 < n) (h1 : n < 0) : ConA w 161 [.int 0 t0, .float (hf (x + 2 * n)) t1, .int 0 t2, .int 0 t3, v] RRef := by
  rcases hn with ⟨hp, u, rfl⟩ | ⟨hp, ⟨u, rfl⟩ | rfl⟩ <;> rcases hx with ⟨hp', rfl⟩ | ⟨hp', rfl⟩ <;> first | exact absurd hp hp' | exact absurd hp' hp | skip
  · exact c_asked0_s w n t0 t1 t2 t3 u h0 h1
  · exact c_asked0_m w n t0 t1 t2 t3 u h0 h1
  · exact c_asked0_n w n t0 t1 t2 t3 h0 h1
theorem firstG_bd {p y v : Int} (h : v = firstG p y) (h0 : -30000000 < y ∧ y < 30000000) : -20000000000 < v ∧ v < 20000000000 := by
  unfold firstG at h
  split at h
  · exact firstS_bd h h0.1 h0.2
  · exact firstM_bd h h0.1 h0.2
local macro_rules | `(tactic| walk_at "call ref") => `(tactic| (k_here; (with_unfolding_all refine' g_fromjd _ _ _ _ _ ?kn ?kN _ _ _ _ _ _ _ _ _ _ _ _ _ _ _ _ _ _ _ _ _ ?k1 ?k2 ?k3 ?k4 ?k5 ?kK ?kd ?ku ?_; (case kn => assumption); (case kN => assumption); (case k1 => k_asm); (case k2 => k_asm); (case k3 => k_asm); (case k4 => k_asm); (case k5 => k_asm); (case kK => first | exact rfl | assumption); (case kd => ktr_room); (case ku => ktr_units); k_whole); (intro a9 b9 c9 hP9; obtain ⟨hP9, hD9⟩ := hP9; have hU9 := hD9; unfold DB at hU9); intro D9 t91 t92 t93 k9 h9 tk9 F9 N9 L9; (try simp only [AllLt, and_true] at L9); (try k_sweep); (try dsimp only); (try k_fold)))
local macro_rules | `(tactic| walk_at "call ref") => `(tactic| (k_here; (with_unfolding_all refine' g_lawjul _ _ _ _ ?kN _ _ _ _ _ _ _ _ _ _ _ _ _ _ _ _ _ _ _ _ _ ?k1 ?k2 ?k3 ?k4 ?k5 ?kK ?kd ?ku ?_; (case kN => assumption); (case k1 => k_asm); (case k2 => k_asm); (case k3 => k_asm); (case k4 => k_asm); (case k5 => k_asm); (case kK => first | exact rfl | assumption); (case kd => ktr_room); (case ku => ktr_units); k_whole); intro a9 b9 c9 hP9; intro D9 t91 t92 t93 k9 h9 tk9 F9 N9 L9; (try simp only [AllLt, and_true] at L9); (try k_sweep); (try dsimp only); (try k_fold)))
local macro_rules | `(tactic| walk_at "call ref") => `(tactic| (k_here; (with_unfolding_all refine' g_tojd _ _ _ _ _ _ _ _ _ _ ?kn ?kP _ _ _ _ _ _ _ _ _ _ _ _ _ _ _ _ _ _ _ _ _ ?k1 ?k2 ?k3 ?k4 ?k5 ?kK ?kd ?ku ?_; (case kn => assumption); (case kP => assumption); (case k1 => k_asm); (case k2 => k_asm); (case k3 => k_asm); (case k4 => k_asm); (case k5 => k_asm); (case kK => first | exact rfl | assumption); (case kd => ktr_room); (case ku => ktr_units); k_whole); intro t9 h9 tk9 F9 N9; (try k_sweep); (try dsimp only); (try k_fold)))
local macro_rules | `(tactic| walk_at "call ref") => `(tactic| (k_here; (with_unfolding_all refine' g_august _ _ _ _ _ _ _ _ _ _ ?kn ?kp ?kN ?kP _ _ _ _ _ _ _ _ _ _ _ _ _ _ _ _ _ _ _ _ _ ?k1 ?k2 ?k3 ?k4 ?k5 ?kK ?kd ?ku ?_; (case kn => assumption); (case kp => assumption); (case kN => assumption); (case kP => assumption); (case k1 => k_asm); (case k2 => k_asm); (case k3 => k_asm); (case k4 => k_asm); (case k5 => k_asm); (case kK => first | exact rfl | assumption); (case kd => ktr_room); (case ku => ktr_units); k_whole); (intro a9 b9 c9 hE9; obtain ⟨e91, e92, e93⟩ := hE9; subst a9; subst b9; subst c9); intro D9 t91 t92 t93 k9 h9 tk9 F9 N9 L9; (try simp only [AllLt, and_true] at L9); (try k_sweep); (try dsimp only); (try k_fold)))
local macro_rules | `(tactic| walk_at "call ref") => `(tactic| (k_here; (with_unfolding_all refine' g_tojulian _ _ _ _ _ _ _ _ _ _ _ _ _ ?kn ?kN ?kP ?kJ _ _ _ _ _ _ _ _ _ _ _ _ _ _ _ _ _ _ _ _ _ ?k1 ?k2 ?k3 ?k4 ?k5 ?kK ?kd ?ku ?_; (case kn => assumption); (case kN => assumption); (case kP => assumption); (case kJ => assumption); (case k1 => k_asm); (case k2 => k_asm); (case k3 => k_asm); (case k4 => k_asm); (case k5 => k_asm); (case kK => first | exact rfl | assumption); (case kd => ktr_room); (case ku => ktr_units); k_whole); (intro a9 b9 c9 hE9; obtain ⟨e91, e92, e93⟩ := hE9; subst a9; subst b9; subst c9); intro D9 t91 t92 t93 k9 h9 tk9 F9 N9 L9; (try simp only [AllLt, and_true] at L9); (try k_sweep); (try dsimp only); (try k_fold)))
local macro_rules | `(tactic| walk_at "call ref") => `(tactic| (k_here; (with_unfolding_all refine' g_fromjulian _ _ _ _ _ _ _ _ _ _ _ _ _ ?kn ?kN ?kJ ?kP _ _ _ _ _ _ _ _ _ _ _ _ _ _ _ _ _ _ _ _ _ ?k1 ?k2 ?k3 ?k4 ?k5 ?kK ?kd ?ku ?_; (case kn => assumption); (case kN => assumption); (case kJ => assumption); (case kP => assumption); (case k1 => k_asm); (case k2 => k_asm); (case k3 => k_asm); (case k4 => k_asm); (case k5 => k_asm); (case kK => first | exact rfl | assumption); (case kd => ktr_room); (case ku => ktr_units); k_whole); (intro a9 b9 c9 hE9; obtain ⟨e91, e92, e93⟩ := hE9; subst a9; subst b9; subst c9); intro D9 t91 t92 t93 k9 h9 tk9 F9 N9 L9; (try simp only [AllLt, and_true] at L9); (try k_sweep); (try dsimp only); (try k_fold)))
local macro_rules | `(tactic| walk_at "call ref") => `(tactic| (k_here; (with_unfolding_all refine' g_first _ _ _ _ ?kh _ _ _ _ _ _ _ _ _ _ _ _ _ _ _ _ _ _ _ _ _ ?k1 ?k2 ?k3 ?k4 ?k5 ?kK ?kd ?ku ?_; (case kh => omega); (case k1 => k_asm); (case k2 => k_asm); (case k3 => k_asm); (case k4 => k_asm); (case k5 => k_asm); (case kK => first | exact rfl | assumption); (case kd => ktr_room); (case ku => ktr_units); k_whole); intro v9 hv9; have hb9 := firstG_bd hv9 (by omega); (intro t9 h9 tk9 F9 N9; (try dsimp only at hv9 ⊢); (try k_sweep)); (try dsimp only); (try k_fold)))
local macro_rules | `(tactic| walk_at "call ref") => `(tactic| (k_here; (with_unfolding_all refine' g_len _ _ _ _ _ _ _ _ _ _ _ _ _ _ _ _ _ _ _ _ _ _ _ _ _ ?k1 ?k2 ?k3 ?k4 ?k5 ?kK ?kd ?ku ?_; (case k1 => k_asm); (case k2 => k_asm); (case k3 => k_asm); (case k4 => k_asm); (case k5 => k_asm); (case kK => first | exact rfl | assumption); (case kd => ktr_room); (case ku => ktr_units); k_whole); intro x9 hx9 D9 t91 t92 t93 t94 t95 t96 t97 t98 t99 t9a t9b t9c t9d h9 tk9 F9 N9 L9; have hX9 := hx9; unfold LG at hX9; (try simp only [AllLt, and_true] at L9); (try k_sweep); (try dsimp only); (try k_fold)))
local macro_rules | `(tactic| walk_at "call ref") => `(tactic| (k_here; (with_unfolding_all refine' c_leap _ _ _ _ _ _ _ _ _ _ _ _ _ _ _ _ _ _ _ _ _ _ _ _ ?k1 ?k2 ?k3 ?k4 ?k5 ?kK ?kd ?ku ?_; (case k1 => k_asm); (case k2 => k_asm); (case k3 => k_asm); (case k4 => k_asm); (case k5 => k_asm); (case kK => first | exact rfl | assumption); (case kd => ktr_room); (case ku => ktr_units); k_whole); (intro h9 tk9 F9 N9; (try k_sweep)); (try dsimp only); (try k_fold)))
local macro_rules | `(tactic| walk_at "call ref") => `(tactic| (k_here; (with_unfolding_all refine' g_mlen _ _ _ _ _ _ _ _ _ _ ?kn ?kD ?kk _ _ _ _ _ _ _ _ _ _ _ _ _ _ _ _ _ _ _ _ _ ?k1 ?k2 ?k3 ?k4 ?k5 ?kK ?kd ?ku ?_; (case kn => assumption); (case kD => assumption); (case kk => first | exact ⟨by assumption, Int.le_of_lt_add_one (by assumption)⟩ | omega); (case k1 => k_asm); (case k2 => k_asm); (case k3 => k_asm); (case k4 => k_asm); (case k5 => k_asm); (case kK => first | exact rfl | assumption); (case kd => ktr_room); (case ku => ktr_units); k_whole); intro t9 h9 tk9 F9 N9; (try k_sweep); (try dsimp only); (try k_fold)))
local macro_rules | `(tactic| walk_at "call ref") => `(tactic| (k_here; (with_unfolding_all refine' g_asked2 _ _ _ _ _ _ _ _ ?kn _ _ _ _ _ _ _ _ _ _ _ _ _ _ _ _ _ _ _ _ ?k1 ?k2 ?k3 ?k4 ?k5 ?kXB ?kTB ?kK ?kd ?ku ?_; (case kn => assumption); (case k1 => k_asm); (case k2 => k_asm); (case k3 => k_asm); (case k4 => k_asm); (case k5 => k_asm); (case kXB => assumption); (case kTB => assumption); (case kK => first | exact rfl | assumption); (case kd => ktr_room); (case ku => ktr_units); k_whole); intro t9 h9 tk9 F9 N9; (try k_sweep); (try dsimp only); (try k_fold)))
local macro_rules | `(tactic| walk_at "call ref") => `(tactic| (k_here; (with_unfolding_all refine' g_asked1 _ _ _ _ _ _ _ _ _ _ ?kn ?kV _ _ _ _ _ _ _ _ _ _ _ _ _ _ _ _ _ _ _ _ ?k1 ?k2 ?k3 ?k4 ?k5 ?kXB ?kTB ?kK ?kd ?ku ?_; (case kn => assumption); (case kV => assumption); (case k1 => k_asm); (case k2 => k_asm); (case k3 => k_asm); (case k4 => k_asm); (case k5 => k_asm); (case kXB => assumption); (case kTB => assumption); (case kK => first | exact rfl | assumption); (case kd => ktr_room); (case ku => ktr_units); k_whole); intro t9 h9 tk9 F9 N9; (try k_sweep); (try dsimp only); (try k_fold)))
local macro_rules | `(tactic| walk_at "call ref") => `(tactic| (k_here; (with_unfolding_all refine' g_askedX _ _ _ _ _ _ _ _ _ _ ?kn ?kX _ _ _ _ _ _ _ _ _ _ _ _ _ _ _ _ _ _ _ _ ?k1 ?k2 ?k3 ?k4 ?k5 ?kXB ?kTB ?kK ?kd ?ku ?_; (case kn => assumption); (case kX => assumption); (case k1 => k_asm); (case k2 => k_asm); (case k3 => k_asm); (case k4 => k_asm); (case k5 => k_asm); (case kXB => assumption); (case kTB => assumption); (case kK => first | exact rfl | assumption); (case kd => ktr_room); (case ku => ktr_units); k_whole); intro t9 h9 tk9 F9 N9; (try k_sweep); (try dsimp only); (try k_fold)))
local macro_rules | `(tactic| walk_at "call ref") => `(tactic| (k_here; (with_unfolding_all refine' g_early _ _ _ _ _ _ _ _ _ ?kn ?kk ?k00 ?k01 _ _ _ _ _ _ _ _ _ _ _ _ _ _ _ _ _ _ _ _ ?k1 ?k2 ?k3 ?k4 ?k5 ?kXB ?kTB ?kK ?kd ?ku ?_; (case kn => assumption); (case kk => omega); (case k00 => omega); (case k01 => omega); (case k1 => k_asm); (case k2 => k_asm); (case k3 => k_asm); (case k4 => k_asm); (case k5 => k_asm); (case kXB => assumption); (case kTB => assumption); (case kK => first | exact rfl | assumption); (case kd => ktr_room); (case ku => ktr_units); k_whole); intro t9 h9 tk9 F9 N9; (try k_sweep); (try dsimp only); (try k_fold)))
/-- marks: the way's number, the second part's year, month, day -/
def Pm (_ : Int) : Prop := True
def Ym (_ : Int) : Prop := True
def Mm (_ : Int) : Prop := True
/-- the end of a test that is summed up -/
def TEnd (P : Bool → Prop) (h₀ : Heap) (L : Addr) (m : Str → Option Value) (news : List (Addr × Obj)) (s : Shared) (b : Bool) (s' : Shared) : Prop :=
  P b ∧ ∃ h' tk', s' = { s with heap := h', toks := tk' } ∧ Fr h₀ L h' m ∧ News h₀ L h' news
theorem tend_intro {P : Bool → Prop} {h₀ h' : Heap} {L : Addr} {m : Str → Option Value} {news : List (Addr × Obj)} {s : Shared} {b : Bool} {tk' : Nat} (hP : P b) (F : Fr h₀ L h' m) (N : News h₀ L h' news) : TEnd P h₀ L m news s b { s with heap := h', toks := tk' } := ⟨hP, h', tk', rfl, F, N⟩
/-- the end of a value that is summed up -/
def VEnd (P : Value → Prop) (s : Shared) (r : Value) (s' : Shared) : Prop := P r ∧ ∃ tk', s' = { s with toks := tk' }
theorem vend_intro {P : Value → Prop} {s : Shared} {r : Value} {tk' : Nat} (hP : P r) : VEnd P s r { s with toks := tk' } := ⟨hP, tk', rfl⟩
section
variable {M : Model} {A : Around} {E : Value → Shared → Prop} {s : Shared} {env : Env}
theorem w_tst {P : Bool → Prop} {test : PySem.Expr} {whole : Sem Value} {h₀ : Heap} {L : Addr} {m : Str → Option Value} {news : List (Addr × Obj)} {Q : Bool → Shared → Prop} (F : Fr h₀ L s.heap m) (N : News h₀ L s.heap news)
    (h1 : wpAny M A (isTrue test env whole) (TEnd P h₀ L m news s) E s) (h2 : ∀ b h' tk', P b → Fr h₀ L h' m → News h₀ L h' news → Q b { s with heap := h', toks := tk' }) : wpAny M A (isTrue test env whole) Q E s :=
  wpAny_mono h1 (fun b s' h => by obtain ⟨hP, h', tk', rfl, F', N'⟩ := h; exact h2 b h' tk' hP F' N') fun _ _ h => h
theorem if_false_ {test : PySem.Expr} {body orelse : List Stmt} {pos : Pos} {h₀ : Heap} {L : Addr} {m : Str → Option Value} {news : List (Addr × Obj)} {Q : Flow → Shared → Prop} (F : Fr h₀ L s.heap m) (N : News h₀ L s.heap news)
    (h1 : wpAny M A (isTrue test env (eval test env)) (TEnd (fun b => b = false) h₀ L m news s) E s) (h2 : ∀ h' tk', Fr h₀ L h' m → News h₀ L h' news → wpAny M A (execs orelse env) Q E { s with heap := h', toks := tk' }) : wpAny M A (exec (.If test body orelse pos) env) Q E s :=
  wpAny_If (w_tst F N h1 fun b h' tk' hb F' N' => by subst hb; exact h2 h' tk' F' N')
theorem if_date {p y m' d : Int} {test : PySem.Expr} {body orelse : List Stmt} {pos : Pos} {h₀ : Heap} {L : Addr} {m : Str → Option Value} {news : List (Addr × Obj)} {Q : Flow → Shared → Prop} (hp : Pm p) (hy : Ym y) (hm : Mm m') (hd : -1 ≤ d ∧ d ≤ 32 ∧ True) (F : Fr h₀ L s.heap m) (N : News h₀ L s.heap news)
    (h1 : wpAny M A (isTrue test env (eval test env)) (TEnd (fun b => b = true ∧ VG p y m' d ∨ b = false ∧ XG p y m' d) h₀ L m news s) E s)
    (h2 : VG p y m' d → ∀ h' tk', Fr h₀ L h' m → News h₀ L h' news → wpAny M A (execs body env) Q E { s with heap := h', toks := tk' })
    (h3 : XG p y m' d → ∀ h' tk', Fr h₀ L h' m → News h₀ L h' news → wpAny M A (execs orelse env) Q E { s with heap := h', toks := tk' }) : wpAny M A (exec (.If test body orelse pos) env) Q E s :=
  wpAny_If (w_tst F N h1 fun b h' tk' hb F' N' => by
    rcases hb with ⟨rfl, hv⟩ | ⟨rfl, hv⟩
    · exact h2 hv h' tk' F' N'
    · exact h3 hv h' tk' F' N')
theorem w_val {P : Value → Prop} {e : PySem.Expr} {Q : Value → Shared → Prop} (h1 : wpAny M A (eval e env) (VEnd P s) E s) (h2 : ∀ r tk', P r → Q r { s with toks := tk' }) : wpAny M A (eval e env) Q E s :=
  wpAny_mono h1 (fun b s' h => by obtain ⟨hP, tk', rfl⟩ := h; exact h2 b tk' hP) fun _ _ h => h
theorem w_fixed {x : Str} {q : Int} {Q : Unit → Shared → Prop} (h : ∀ p : Int, Pm p → wpAny M A (storeName env x (.bool (decide (p = 1)))) Q E s) : wpAny M A (storeName env x (.bool (q == (1 : Int)))) Q E s := h q trivial
theorem w_name {p : Int} {e : PySem.Expr} {Q : Value → Shared → Prop} (_ : Pm p) (h1 : wpAny M A (eval e env) (VEnd (Nm p) s) E s) (h2 : ∀ r, Nm p r → ∀ tk', Q r { s with toks := tk' }) : wpAny M A (eval e env) Q E s := w_val h1 fun r tk' h => h2 r h tk'
theorem w_ifint {p a b : Int} {test : PySem.Expr} {k1 k2 : Nat} {p1 p2 p3 : Pos} {Q : Value → Shared → Prop} (_ : Pm p) (h1 : wpAny M A (eval (.IfExp test (.Constant (.int a) k1 p1) (.Constant (.int b) k2 p2) p3) env) (VEnd (fun r => ∃ x t, r = .int x t ∧ (p = 1 ∧ x = a ∨ p ≠ 1 ∧ x = b)) s) E s)
    (h2 : ∀ x, (p = 1 ∧ x = a ∨ p ≠ 1 ∧ x = b) → ∀ t tk', Q (.int x t) { s with toks := tk' }) : wpAny M A (eval (.IfExp test (.Constant (.int a) k1 p1) (.Constant (.int b) k2 p2) p3) env) Q E s := w_val h1 fun r tk' ⟨x, t, hr, hx⟩ => hr ▸ h2 x hx t tk'
theorem w_ifflt {p : Int} {e : PySem.Expr} {Q : Value → Shared → Prop} (_ : Pm p) (h1 : wpAny M A (eval e env) (VEnd (fun r => ∃ x t, r = .float (hf x) t ∧ (p = 1 ∧ x = 4234421 ∨ p ≠ 1 ∧ x = 3845003)) s) E s)
    (h2 : ∀ x, (p = 1 ∧ x = 4234421 ∨ p ≠ 1 ∧ x = 3845003) → ∀ t tk', Q (.float (hf x) t) { s with toks := tk' }) : wpAny M A (eval e env) Q E s := w_val h1 fun r tk' ⟨x, t, hr, hx⟩ => hr ▸ h2 x hx t tk'
theorem w_number {p q : Int} {x : Str} {t : Tok} {Q : Unit → Shared → Prop} (_ : Pm p) (hq : NB p q) (h : ∀ N : Int, NB p N → wpAny M A (storeName env x (.int N t)) Q E s) : wpAny M A (storeName env x (.int q t)) Q E s := h q hq
theorem w_year {x : Str} {q : Int} {t : Tok} {Q : Unit → Shared → Prop} (h : ∀ y : Int, y = q → Ym y → wpAny M A (storeName env x (.int y t)) Q E s) : wpAny M A (storeName env x (.int q t)) Q E s := h q rfl trivial
theorem w_month {x : Str} {q : Int} {t : Tok} {Q : Unit → Shared → Prop} (hq : -1 ≤ q ∧ q ≤ 14) (h : ∀ y : Int, -1 ≤ y ∧ y ≤ 14 → Mm y → wpAny M A (storeName env x (.int y t)) Q E s) : wpAny M A (storeName env x (.int q t)) Q E s := h q hq trivial
theorem w_day {x : Str} {q : Int} {t : Tok} {Q : Unit → Shared → Prop} (hq : -1 ≤ q ∧ q ≤ 32) (h : ∀ y : Int, -1 ≤ y ∧ y ≤ 32 ∧ True → wpAny M A (storeName env x (.int y t)) Q E s) : wpAny M A (storeName env x (.int q t)) Q E s := h q ⟨hq.1, hq.2, trivial⟩
end
theorem fm_bd (q : Int) {k : Int} (hk : 0 < k) : 0 ≤ Int.fmod q k ∧ Int.fmod q k < k := by
  rw [Int.fmod_eq_emod_of_nonneg q (Int.le_of_lt hk)]; exact ⟨Int.emod_nonneg q (Int.ne_of_gt hk), Int.emod_lt_of_pos q hk⟩
theorem fm16 (q : Int) : -1 ≤ Int.fmod q 16 - 1 ∧ Int.fmod q 16 - 1 ≤ 14 := by have := fm_bd q (k := 16) (by decide); omega
theorem fm34 (q : Int) : -1 ≤ Int.fmod q 34 - 1 ∧ Int.fmod q 34 - 1 ≤ 32 := by have := fm_bd q (k := 34) (by decide); omega
local macro_rules | `(tactic| walk_at "storeName") => `(tactic| ((with_reducible show wpAny _ _ (storeName _ _ (Value.bool (_ == _))) _ _ _); (refine w_fixed ?_); intro p9 hp9; (try k_fold)))
local macro_rules | `(tactic| walk_at "storeName") => `(tactic| ((with_reducible show wpAny _ _ (storeName _ (Str.ofString "number") (Value.int (_ + _) _)) _ _ _); (refine' w_number ?km ?kq ?_; (case km => assumption); (case kq => (unfold NB; omega))); intro N9 hN9; have hn9 := hN9; unfold NB at hn9))
local macro_rules | `(tactic| walk_at "storeName") => `(tactic| ((with_reducible show wpAny _ _ (storeName _ (Str.ofString "year") (Value.int (_ + _) _)) _ _ _); (refine' w_year ?_); intro y9 hy9 hym9))
local macro_rules | `(tactic| walk_at "storeName") => `(tactic| ((with_reducible show wpAny _ _ (storeName _ (Str.ofString "month") (Value.int (_ - _) _)) _ _ _); (refine' w_month (fm16 _) ?_); intro m9 hm9 hmm9))
local macro_rules | `(tactic| walk_at "storeName") => `(tactic| ((with_reducible show wpAny _ _ (storeName _ (Str.ofString "day") (Value.int (_ - _) _)) _ _ _); (refine' w_day (fm34 _) ?_); intro d9 hd9))
local macro_rules | `(tactic| walk_at "eval IfExp") => `(tactic| ((with_reducible show wpAny _ _ (eval (PySem.Expr.IfExp (PySem.Expr.Name (Str.ofString "fixed") _) (PySem.Expr.Constant (Const.str _) _ _) _ _) _) _ _ _); (fail_if_success (with_reducible show wpAny _ _ _ (VEnd _ _) _ _)); focus ((refine' w_name ?km ?_ ?_; (case km => assumption)); rotate_left; (intro nv9 hnv9 tk9; (try dsimp only); (try k_fold)); rotate_right)))
local macro_rules | `(tactic| walk_at "eval IfExp") => `(tactic| ((with_reducible show wpAny _ _ (eval (PySem.Expr.IfExp (PySem.Expr.Name (Str.ofString "fixed") _) (PySem.Expr.Constant (Const.int _) _ _) (PySem.Expr.Constant (Const.int _) _ _) _) _) _ _ _); (fail_if_success (with_reducible show wpAny _ _ _ (VEnd _ _) _ _)); focus ((refine' w_ifint ?km ?_ ?_; (case km => assumption)); rotate_left; (intro x9 hx9 t9 tk9; (try dsimp only); (try k_fold)); rotate_right)))
local macro_rules | `(tactic| walk_at "eval IfExp") => `(tactic| ((with_reducible show wpAny _ _ (eval (PySem.Expr.IfExp (PySem.Expr.Name (Str.ofString "fixed") _) (PySem.Expr.Constant (Const.float _) _ _) (PySem.Expr.Constant (Const.float _) _ _) _) _) _ _ _); (fail_if_success (with_reducible show wpAny _ _ _ (VEnd _ _) _ _)); focus ((refine' w_ifflt ?km ?_ ?_; (case km => assumption)); rotate_left; (intro x9 hx9 t9 tk9; (try dsimp only); (try k_fold)); rotate_right)))
local macro_rules | `(tactic| walk_at "exec If") => `(tactic| (k_here; (with_reducible show wpAny _ _ (exec (Stmt.If _ [Stmt.Return (some (PySem.Expr.Constant (Const.bool false) _ _)) _] [] _) _) _ _ _); focus ((refine' if_false_ ?kF ?kN ?_ ?_; (case kF => k_asm); (case kN => k_asm)); rotate_left; (intro h9 tk9 F9 N9; (try k_sweep); (try dsimp only); (try k_fold)); rotate_right)))
local macro_rules | `(tactic| walk_at "exec If") => `(tactic| (k_here; (with_reducible show wpAny _ _ (exec (Stmt.If _ [Stmt.Assign _ _ _] [] _) _) _ _ _); focus ((refine' if_date ?kp ?ky ?km ?kd ?kF ?kN ?_ ?_ ?_; (case kp => assumption); (case ky => assumption); (case km => assumption); (case kd => assumption); (case kF => k_asm); (case kN => k_asm)); rotate_left; (intro hV9; have hv9 := hV9; unfold VG at hv9; intro h9 tk9 F9 N9; (try k_sweep); (try dsimp only); (try k_fold)); rotate_left; (intro hX9 h9 tk9 F9 N9; (try k_sweep); (try dsimp only); (try k_fold)); rotate_right; rotate_right)))
local macro_rules | `(tactic| k_room) => `(tactic| ktr_room)
theorem leap_ne {y : Int} (h : 532 < y) : (decide (533 ≤ y ∧ y % 4 = 0) != (Int.fmod y 4 == 0)) = false := by
  rw [f4]
  by_cases hy : y % 4 = 0
  · rw [decide_eq_true (by omega), beq_iff_eq.mpr hy]; rfl
  · rw [decide_eq_false (by omega), beq_eq_false_iff_ne.mpr hy]; rfl
theorem leap_ne0 {y : Int} (h : ¬ 532 < y) : (decide (533 ≤ y ∧ y % 4 = 0) != decide (532 < y)) = false := by
  rw [decide_eq_false (by omega), decide_eq_false h]; rfl
theorem ml_eq {p y x : Int} (h : LG p y x) : List.map (fun k' => mlG p y k') (rangeKs 1 (14 - 1 : Int).toNat) = [30, 30, 30, 30, 30, 30, 30, 30, 30, 30, 30, 30, x] := by
  have e : mlG p y 13 = x := by
    unfold mlG; unfold LG at h; rw [if_pos rfl]; split <;> omega
  rw [← e]
  rfl
theorem eq_same {prog : Program} {w : World} {A : Around} {E : Value → Shared → Prop} {s : Shared} {x : Str} {t u : Tok} {Q : Value → Shared → Prop} (h : Q (.bool true) s) : wpAny (model prog w) A (compareOp .Eq (.str x t) (.str x u)) Q E s := eq_str (by rw [beq_self_eq_true]; exact h)
local macro_rules | `(tactic| walk_at "compareOp Eq str str") => `(tactic| ((with_reducible show wpAny _ _ (compareOp CmpOp.Eq (Value.str (Str.ofString "refused") _) (Value.str (Str.ofString "refused") _)) _ _ _); (with_reducible refine eq_same ?_)))
theorem end_true {cl : Str → Option Addr} {mean : ExcName → Option Value} {ns : List Int} {s₁ s' : Shared} {L : Addr} {m : Str → Option Value} (F : Fr s₁.heap L s'.heap m) (hg : s'.gens = #[]) (hos : s'.os = s₁.os) :
    GoodW PySem.Challenge.rw_ak5014_01.row.claim cl mean [ofPy (PyData.list (List.map PyData.int ns))] s₁ (.ok (.ret (.bool true))) s' := by
  refine goodW_bool F hg (raisesW_false ?_) ?_ hos
  · wrow_none_raised
  · wrow_post
set_option maxHeartbeats 400000000 in
theorem law_holds : PySem.Challenge.rw_ak5014_01.Holds := hd (by
  k_go0
  all_goals try k_fold
  k_with_none
  repeat (first
    | (k_unfold; (try dsimp only))
    | ((with_reducible show VEnd _ _ _ _); first | exact vend_intro (P := Nm _) (.inl ⟨by omega, _, rfl⟩) | exact vend_intro (P := Nm _) (.inr ⟨by omega, .inl ⟨_, rfl⟩⟩) | exact vend_intro (P := Nm _) (.inr ⟨by omega, .inr rfl⟩) | exact vend_intro ⟨_, _, rfl, by omega⟩ | exact vend_intro ⟨_, _, congrArg (fun b => Value.float b _) k_sark, .inl ⟨by omega, rfl⟩⟩ | exact vend_intro ⟨_, _, congrArg (fun b => Value.float b _) k_epoch, .inr ⟨by omega, rfl⟩⟩)
    | ((with_reducible show TEnd _ _ _ _ _ _ _ _); refine' tend_intro ?tP ?tF ?tN; (case tF => k_asm); (case tN => first | k_asm | (refine' cb_drop ?cbN ?cbS; (case cbN => assumption); (case cbS => kcj_all))); (case tP => ((try dsimp only) <;> first | (with_reducible exact rfl) | exact decide_eq_false (by omega) | (exfalso; omega) | (refine .inl ⟨rfl, ?_⟩; unfold VG; omega) | (refine .inr ⟨rfl, ?_⟩; unfold XG; omega) | exact rfl | exact absurd (ml_eq (by assumption)) (by assumption) | exact leap_ne (by omega) | exact leap_ne0 (by omega) | (simp only [beq_self_eq_true, Bool.and_self, Bool.not_true]))))
    | ((with_reducible show GoodW _ _ _ _ _ _ _); refine' end_true ?eF ?eg ?eo; (case eF => k_asm); (case eg => first | assumption | rfl); (case eo => rfl))
    | (k_end; (fail_if_success (with_reducible show GoodW _ _ _ _ _ _ _)); wrow_close) | walk1 | (dsimp only; walk1) | (leave1; walk_say "STEP leave1"; (try dsimp only))))
end Mine
theorem PySem.Challenge.cw_ak5014_01_holds : PySem.Challenge.rw_ak5014_01.Holds := by
  exact Mine.law_holds
