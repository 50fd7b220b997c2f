import PyProof.Rows.All
import Wide.All
import OpenK.AllK
import Wide.FinOn
import PySem.Challenge.RW_ad5034_01
set_option Elab.async false
set_option linter.all false
namespace Mine
section
open PySem PySem.W PyProof.Rows
set_option maxRecDepth 100000 in
set_option maxHeartbeats 8000000 in
open_top hd for PySem.Challenge.rw_ad5034_01
end
section
open PySem PySem.W PyProof.Rows PySem.Spec PySem.Calls
open PySem.Float64 PySem.Flt
set_option maxRecDepth 100000

theorem V_surj (j : Nat) : ∀ a, a < 2 ^ 53 → ∃ t, V t = a * 2 ^ j ∧ t ≤ j * 2 ^ 52 + 2 ^ 53 := by
  induction j with
  | zero =>
    intro a ha
    have h := V_at (k := 0) (q := a) (by omega) (.inr rfl)
    rw [Nat.zero_mul, Nat.zero_add] at h
    exact ⟨a, h, by omega⟩
  | succ j ih =>
    intro a ha
    by_cases h : 2 ^ 52 ≤ a
    · exact ⟨(j + 1) * 2 ^ 52 + a, V_at (k := j + 1) (q := a) (by omega) (.inl h), by omega⟩
    · obtain ⟨t, h1, h2⟩ := ih (2 * a) (by omega)
      refine ⟨t, ?_, Nat.le_trans h2 (Nat.add_le_add_right (Nat.mul_le_mul_right _ (Nat.le_succ j)) _)⟩
      rw [h1, Nat.pow_succ]
      generalize 2 ^ j = z
      rw [Nat.mul_comm 2 a, Nat.mul_assoc, Nat.mul_comm 2 z]
theorem V_inj {t t' : Nat} (h : V t = V t') : t = t' := by
  rcases Nat.lt_trichotomy t t' with h1 | h1 | h1
  · have := V_lt h1; omega
  · exact h1
  · have := V_lt h1; omega

/-- x is the float of n * 2 ^ (j - 1074) -/
def Dy (x : UInt64) (n : Int) (j : Nat) : Prop := ∃ t, x = pack (decide (n < 0)) t ∧ t < infMag ∧ V t = n.natAbs * 2 ^ j

theorem Dy.unique {x y : UInt64} {n n' : Int} {j j' : Nat} (h : Dy x n j) (h' : Dy y n' j') (e : n * 2 ^ j = n' * 2 ^ j') : x = y := by
  obtain ⟨t, rfl, _, hv⟩ := h
  obtain ⟨t', rfl, _, hv'⟩ := h'
  have p1 : (0 : Int) < 2 ^ j := Int.pow_pos (by decide)
  have p2 : (0 : Int) < 2 ^ j' := Int.pow_pos (by decide)
  have es : decide (n < 0) = decide (n' < 0) := by
    apply decide_eq_decide.mpr
    constructor
    · intro hn
      have := Int.mul_neg_of_neg_of_pos hn p1
      rw [e] at this
      by_cases c : n' < 0
      · exact c
      · have := Int.mul_nonneg (show 0 ≤ n' by omega) (Int.le_of_lt p2); omega
    · intro hn
      have := Int.mul_neg_of_neg_of_pos hn p2
      rw [← e] at this
      by_cases c : n < 0
      · exact c
      · have := Int.mul_nonneg (show 0 ≤ n by omega) (Int.le_of_lt p1); omega
  have ev : V t = V t' := by
    rw [hv, hv']
    have := congrArg Int.natAbs e
    rw [Int.natAbs_mul, Int.natAbs_mul, Int.natAbs_pow, Int.natAbs_pow] at this
    exact this
  rw [es, V_inj ev]
theorem Dy.dec {x : UInt64} {n : Int} {j : Nat} (h : Dy x n j) : ∃ m e, decode x = .fin (decide (n < 0)) m e ∧ val x = n * 2 ^ j := by
  obtain ⟨t, rfl, ht, hv⟩ := h
  obtain ⟨m, e, hd, _⟩ := decode_pack (decide (n < 0)) ht
  refine ⟨m, e, hd, ?_⟩
  rw [val_pack _ ht, hv]
  have e1 : ((n.natAbs * 2 ^ j : Nat) : Int) = n.natAbs * 2 ^ j := by simp
  unfold sgn
  by_cases c : n < 0
  · simp only [c, decide_true, if_true]
    rw [e1, ← Int.neg_mul]
    congr 1
    omega
  · simp only [c, decide_false, Bool.false_eq_true, if_false]
    rw [e1]
    congr 1
    omega

theorem right_lt {r : UInt64} {neg : Bool} {W D : Nat} (h : Right r neg W D) (hD : 0 < D) (hW : W ≤ D * 2 ^ 1150) : ∃ t, r = pack neg t ∧ t < infMag ∧ (∀ t', dist W (D * V t) ≤ dist W (D * V t')) := by
  obtain ⟨t, rfl, hle, hov, hn⟩ := h
  have hlt : t < infMag := by
    rcases Nat.lt_or_ge t infMag with c | c
    · exact c
    · exfalso
      have h1 := hov.mp (by omega)
      have h2 : D * 2 ^ 2045 ≤ D * ((2 ^ 54 - 1) * 2 ^ 2045) := Nat.mul_le_mul_left D (Nat.le_mul_of_pos_left _ (by decide))
      have h3 : D * 2 ^ 1151 < D * 2 ^ 2045 := Nat.mul_lt_mul_of_pos_left (Nat.pow_lt_pow_right (by decide) (by decide)) hD
      have h4 : D * 2 ^ 1151 = 2 * (D * 2 ^ 1150) := by rw [show (1151 : Nat) = 1150 + 1 from rfl, Nat.pow_succ, Nat.mul_comm (2 ^ 1150) 2, Nat.mul_left_comm]
      generalize D * 2 ^ 1151 = z1 at *
      generalize D * 2 ^ 1150 = z2 at *
      generalize D * ((2 ^ 54 - 1) * 2 ^ 2045) = z3 at *
      generalize D * 2 ^ 2045 = z4 at *
      omega
  exact ⟨t, rfl, hlt, fun t' => (hn hlt t').1⟩

theorem near_ge {W D t t' : Nat} (hD : 0 < D) (hn : dist W (D * V t) ≤ dist W (D * V t')) (h : D * V t' ≤ W) : V t' ≤ V t := by
  rcases Nat.lt_or_ge (V t) (V t') with c | c
  · have := Nat.mul_lt_mul_of_pos_left c hD
    unfold dist at hn
    generalize D * V t = a at *
    generalize D * V t' = b at *
    omega
  · exact c
theorem near_le {W D t t' : Nat} (hD : 0 < D) (hn : dist W (D * V t) ≤ dist W (D * V t')) (h : W ≤ D * V t') : V t ≤ V t' := by
  rcases Nat.lt_or_ge (V t') (V t) with c | c
  · have := Nat.mul_lt_mul_of_pos_left c hD
    unfold dist at hn
    generalize D * V t = a at *
    generalize D * V t' = b at *
    omega
  · exact c

theorem right_dy {r : UInt64} {n : Int} {j W D : Nat} (h : Right r (decide (n < 0)) W D) (hD : 0 < D) (hj : j ≤ 1090) (hn : n.natAbs < 2 ^ 53) (hW : W = D * (n.natAbs * 2 ^ j)) : Dy r n j := by
  have hb : n.natAbs * 2 ^ j ≤ 2 ^ 1150 := by
    have h1 : n.natAbs * 2 ^ j ≤ 2 ^ 53 * 2 ^ 1090 := Nat.mul_le_mul (by omega) (Nat.pow_le_pow_right (by decide) hj)
    have h2 : (2 : Nat) ^ 53 * 2 ^ 1090 ≤ 2 ^ 1150 := by rw [← Nat.pow_add]; exact Nat.pow_le_pow_right (by decide) (by decide)
    exact Nat.le_trans h1 h2
  obtain ⟨t, rfl, ht, hnear⟩ := right_lt h hD (by rw [hW]; exact Nat.mul_le_mul_left D hb)
  obtain ⟨t', hv, _⟩ := V_surj j n.natAbs hn
  refine ⟨t, rfl, ht, ?_⟩
  have h1 := near_ge hD (hnear t') (by rw [hv, hW]; exact Nat.le_refl _)
  have h2 := near_le hD (hnear t') (by rw [hv, hW]; exact Nat.le_refl _)
  omega

/-- the float n / 2 -/
def H (n : Int) : UInt64 := ofFrac (decide (n < 0)) n.natAbs 2

theorem dyH {n : Int} (hn : n.natAbs < 2 ^ 53) : Dy (H n) n 1073 := by
  have h : Right (H n) (decide (n < 0)) (n.natAbs * 2 ^ 1073) 1 := ofFrac_right (by decide) (by rw [Nat.mul_one, Nat.mul_assoc, ← Nat.pow_succ]) (by decide)
  exact right_dy h (by decide) (by decide) hn (by rw [Nat.one_mul])
theorem dyI {n : Int} (hn : n.natAbs < 2 ^ 53) : Dy (ofInt n) n 1074 :=
  right_dy (ofInt_right n) (by decide) (by decide) hn (by rw [Nat.one_mul])
theorem pow_up (n : Int) : n * 2 ^ 1074 = 2 * n * 2 ^ 1073 := by
  rw [show (1074 : Nat) = 1073 + 1 from rfl, Int.pow_succ, Int.mul_comm (2 ^ 1073) 2, ← Int.mul_assoc, Int.mul_comm n 2]
theorem ofInt_H {n : Int} (hn : n.natAbs < 2 ^ 52) : ofInt n = H (2 * n) := (dyI (by omega)).unique (dyH (by omega)) (pow_up n)

theorem H_zero : H 0 = zero false := by decide +kernel
theorem add_H {a b : Int} (ha : a.natAbs < 2 ^ 53) (hb : b.natAbs < 2 ^ 53) (hc : (a + b).natAbs < 2 ^ 53) : add (H a) (H b) = H (a + b) := by
  obtain ⟨m, e, hd, hv⟩ := (dyH ha).dec
  obtain ⟨m', e', hd', hv'⟩ := (dyH hb).dec
  have h := add_right hd hd'
  have p1 : (0 : Int) < 2 ^ 1073 := Int.pow_pos (by decide)
  have es : val (H a) + val (H b) = (a + b) * 2 ^ 1073 := by rw [hv, hv', Int.add_mul]
  rw [es] at h
  by_cases hz : a + b = 0
  · rw [h.1 (by rw [hz, Int.zero_mul]), hz, H_zero]
    congr 1
    by_cases c : a < 0
    · have : ¬ b < 0 := by omega
      simp [this]
    · simp [c]
  · have hne : (a + b) * 2 ^ 1073 ≠ 0 := fun q => by rcases Int.mul_eq_zero.mp q with q | q; exact hz q; omega
    have hr := h.2 hne
    have hs : decide ((a + b) * 2 ^ 1073 < 0) = decide (a + b < 0) := by
      apply decide_eq_decide.mpr
      constructor
      · intro q
        by_cases c : a + b < 0
        · exact c
        · have := Int.mul_nonneg (show 0 ≤ a + b by omega) (Int.le_of_lt p1); omega
      · intro q; exact Int.mul_neg_of_neg_of_pos q p1
    rw [hs] at hr
    refine (right_dy hr (j := 1073) (by decide) (by decide) hc ?_).unique (dyH hc) rfl
    rw [Nat.one_mul, Int.natAbs_mul, Int.natAbs_pow]
    rfl
theorem sub_H {a b : Int} (ha : a.natAbs < 2 ^ 53) (hb : b.natAbs < 2 ^ 53) (hc : (a - b).natAbs < 2 ^ 53) : sub (H a) (H b) = H (a - b) := by
  obtain ⟨m, e, hd, hv⟩ := (dyH ha).dec
  obtain ⟨m', e', hd', hv'⟩ := (dyH hb).dec
  have h := sub_right hd hd'
  have p1 : (0 : Int) < 2 ^ 1073 := Int.pow_pos (by decide)
  have es : val (H a) - val (H b) = (a - b) * 2 ^ 1073 := by rw [hv, hv', Int.sub_mul]
  rw [es] at h
  by_cases hz : a - b = 0
  · rw [h.1 (by rw [hz, Int.zero_mul]), hz, H_zero]
    congr 1
    by_cases c : a < 0
    · have : b < 0 := by omega
      simp [this]
    · simp [c]
  · have hne : (a - b) * 2 ^ 1073 ≠ 0 := fun q => by rcases Int.mul_eq_zero.mp q with q | q; exact hz q; omega
    have hr := h.2 hne
    have hs : decide ((a - b) * 2 ^ 1073 < 0) = decide (a - b < 0) := by
      apply decide_eq_decide.mpr
      constructor
      · intro q
        by_cases c : a - b < 0
        · exact c
        · have := Int.mul_nonneg (show 0 ≤ a - b by omega) (Int.le_of_lt p1); omega
      · intro q; exact Int.mul_neg_of_neg_of_pos q p1
    rw [hs] at hr
    refine (right_dy hr (j := 1073) (by decide) (by decide) hc ?_).unique (dyH hc) rfl
    rw [Nat.one_mul, Int.natAbs_mul, Int.natAbs_pow]
    rfl

theorem mul_sgn {a b : Int} (ha : 0 < a) : decide (a * b < 0) = decide (b < 0) := by
  apply decide_eq_decide.mpr
  constructor
  · intro q
    by_cases c : b < 0
    · exact c
    · have := Int.mul_nonneg (Int.le_of_lt ha) (show 0 ≤ b by omega); omega
  · intro q; exact Int.mul_neg_of_pos_of_neg ha q
/-- a positive factor, on either side -/
theorem mul_dy {x y : UInt64} {a b : Int} {i j k : Nat} (hx : Dy x a i) (hy : Dy y b j) (ha : 0 < a) (hc : (a * b).natAbs < 2 ^ 53) (hk : k ≤ 1090) (e : i + j = k + 1074) : Dy (mul x y) (a * b) k ∧ Dy (mul y x) (a * b) k := by
  obtain ⟨m, f, hd, hv⟩ := hx.dec
  obtain ⟨m', f', hd', hv'⟩ := hy.dec
  have e0 : decide (a < 0) = false := by simp; omega
  have eW : (val x).natAbs * (val y).natAbs = 2 ^ 1074 * ((a * b).natAbs * 2 ^ k) := by
    rw [hv, hv', Int.natAbs_mul, Int.natAbs_mul, Int.natAbs_mul, Int.natAbs_pow, Int.natAbs_pow]
    show a.natAbs * 2 ^ i * (b.natAbs * 2 ^ j) = _
    have : a.natAbs * 2 ^ i * (b.natAbs * 2 ^ j) = a.natAbs * b.natAbs * (2 ^ i * 2 ^ j) := by ac_rfl
    rw [this, ← Nat.pow_add, e, Nat.pow_add]
    generalize (2 : Nat) ^ 1074 = z
    ac_rfl
  constructor
  · have hr := mul_right hd hd'
    rw [e0, Bool.false_bne, ← mul_sgn ha, eW] at hr
    exact right_dy hr (Nat.two_pow_pos _) hk hc rfl
  · have hr := mul_right hd' hd
    rw [e0, Bool.bne_false, ← mul_sgn ha, Nat.mul_comm, eW] at hr
    exact right_dy hr (Nat.two_pow_pos _) hk hc rfl

theorem floor_val {x : UInt64} {s : Bool} {m : Nat} {e : Int} (h : decode x = .fin s m e) : floorOf s m e = (val x).fdiv (2 ^ 1074) := by
  have he := decode_ge h
  have pp : ∀ k : Nat, (0 : Int) < 2 ^ k := fun k => Int.pow_pos (by decide)
  have hv : val x = sgn s m * 2 ^ (e + 1074).toNat := by rw [val_eq h, sgn_mul]; simp
  rw [hv]
  unfold floorOf
  split
  · rename_i hge
    have e1 : (e + 1074).toNat = e.toNat + 1074 := by omega
    rw [e1, Int.pow_add, ← Int.mul_assoc]
    exact (Int.mul_fdiv_cancel _ (Int.ne_of_gt (pp 1074))).symm
  · rename_i hlt
    have e1 : 1074 = (-e).toNat + (e + 1074).toNat := by omega
    have e2 : (2 : Int) ^ 1074 = 2 ^ (-e).toNat * 2 ^ (e + 1074).toNat := by rw [← Int.pow_add, ← e1]
    rw [e2]
    rw [Int.fdiv_eq_ediv_of_nonneg _ (Int.le_of_lt (pp _)), Int.fdiv_eq_ediv_of_nonneg _ (Int.le_of_lt (Int.mul_pos (pp _) (pp _)))]
    exact (Int.mul_ediv_mul_of_pos_left _ _ (pp _)).symm

/-- x is finite and its floor | ceiling | whole part is k -/
def Fl (x : UInt64) (k : Int) : Prop := ∃ s m e, decode x = .fin s m e ∧ floorOf s m e = k
def Ce (x : UInt64) (k : Int) : Prop := ∃ s m e, decode x = .fin s m e ∧ ceilOf s m e = k
def Tr (x : UInt64) (k : Int) : Prop := ∃ s m e, decode x = .fin s m e ∧ truncOf s m e = k

theorem div_between {v k P : Int} (hP : 0 < P) (h1 : k * P ≤ v) (h2 : v < (k + 1) * P) : v.fdiv P = k := by
  rw [Int.fdiv_eq_ediv_of_nonneg _ (Int.le_of_lt hP)]
  have a := (Int.le_ediv_iff_mul_le hP).mpr h1
  have b := (Int.ediv_lt_iff_lt_mul hP).mpr h2
  omega
theorem ceil_val {x : UInt64} {s : Bool} {m : Nat} {e : Int} (h : decode x = .fin s m e) : ceilOf s m e = -((-val x).fdiv (2 ^ 1074)) := by
  unfold ceilOf
  have hn := neg_decode h
  rw [floor_val hn, neg_val h]

theorem fl_of {x : UInt64} {s : Bool} {m : Nat} {e k : Int} (hd : decode x = .fin s m e) (h1 : k * 2 ^ 1074 ≤ val x) (h2 : val x < (k + 1) * 2 ^ 1074) : Fl x k :=
  ⟨s, m, e, hd, by rw [floor_val hd]; exact div_between (Int.pow_pos (by decide)) h1 h2⟩
theorem ce_of {x : UInt64} {s : Bool} {m : Nat} {e k : Int} (hd : decode x = .fin s m e) (h1 : (k - 1) * 2 ^ 1074 < val x) (h2 : val x ≤ k * 2 ^ 1074) : Ce x k :=
  ⟨s, m, e, hd, by
    rw [ceil_val hd, div_between (k := -k) (Int.pow_pos (by decide))]
    · omega
    · rw [Int.neg_mul]; generalize (2 : Int) ^ 1074 = P at *; omega
    · have : (-k + 1) * 2 ^ 1074 = -((k - 1) * 2 ^ 1074) := by rw [← Int.neg_mul]; congr 1; omega
      rw [this]; generalize (k - 1) * (2 : Int) ^ 1074 = P at *; omega⟩
theorem sgn_nonneg_of {s : Bool} {m : Nat} {P : Int} (hP : 0 < P) (h : 0 ≤ sgn s m * P) : 0 ≤ sgn s m := by
  by_cases c : 0 ≤ sgn s m
  · exact c
  · have := Int.mul_neg_of_neg_of_pos (show sgn s m < 0 by omega) hP; omega
theorem tr_of_fl {x : UInt64} {k : Int} (h : Fl x k) (hk : 0 ≤ k) : Tr x k := by
  obtain ⟨s, m, e, hd, hf⟩ := h
  refine ⟨s, m, e, hd, ?_⟩
  unfold truncOf
  cases s
  · exact hf
  · rw [if_pos rfl]
    have pp : (0 : Int) < 2 ^ 1074 := Int.pow_pos (by decide)
    have hv : val x ≤ 0 := by rw [val_eq hd]; unfold sgn; simp only [if_true]; omega
    rw [floor_val hd, Int.fdiv_eq_ediv_of_nonneg _ (Int.le_of_lt pp)] at hf
    have h0 : 0 ≤ val x := by
      have := (Int.le_ediv_iff_mul_le pp).mp (show k ≤ val x / 2 ^ 1074 by omega)
      have := Int.mul_nonneg hk (Int.le_of_lt pp)
      omega
    have hz : val x = 0 := by omega
    rw [ceil_val hd, hz]
    rw [hz] at hf
    rw [← hf]
    simp

theorem right_bounds {r : UInt64} {neg : Bool} {W D : Nat} (h : Right r neg W D) (hD : 0 < D) (hW : W ≤ D * 2 ^ 1150) :
    ∃ m e, decode r = .fin neg m e ∧ (∀ (c : Int) (j : Nat), c.natAbs < 2 ^ 53 → (D : Int) * (c * 2 ^ j) ≤ sgn neg W → c * 2 ^ j ≤ val r) ∧
      (∀ (c : Int) (j : Nat), c.natAbs < 2 ^ 53 → sgn neg W ≤ (D : Int) * (c * 2 ^ j) → val r ≤ c * 2 ^ j) := by
  obtain ⟨t, rfl, ht, hn⟩ := right_lt h hD hW
  obtain ⟨m, e, hd, _⟩ := decode_pack neg ht
  have hv := val_pack neg ht
  have pp : ∀ k : Nat, (0 : Int) < 2 ^ k := fun k => Int.pow_pos (by decide)
  have hD' : (0 : Int) < D := by omega
  have cast : ∀ a j : Nat, ((a * 2 ^ j : Nat) : Int) = (a : Int) * 2 ^ j := fun a j => by simp
  refine ⟨m, e, hd, ?_, ?_⟩
  · intro c j hc hle
    rw [hv]
    cases neg
    · simp only [sgn, Bool.false_eq_true, if_false] at hle ⊢
      by_cases hc0 : c ≤ 0
      · have := Int.mul_nonneg (show 0 ≤ -c by omega) (Int.le_of_lt (pp j))
        rw [Int.neg_mul] at this
        omega
      · obtain ⟨t', hv', _⟩ := V_surj j c.natAbs hc
        have e1 : ((V t' : Nat) : Int) = c * 2 ^ j := by rw [hv', cast]; congr 1; omega
        have h2 := near_ge hD (hn t') (by
          have : ((D * V t' : Nat) : Int) ≤ W := by rw [Int.natCast_mul, e1]; exact hle
          omega)
        omega
    · simp only [sgn, if_true] at hle ⊢
      have hc0 : c ≤ 0 := by
        by_cases q : c ≤ 0
        · exact q
        · have := Int.mul_pos hD' (Int.mul_pos (show 0 < c by omega) (pp j)); omega
      obtain ⟨t', hv', _⟩ := V_surj j c.natAbs hc
      have e1 : ((V t' : Nat) : Int) = -(c * 2 ^ j) := by rw [hv', cast, ← Int.neg_mul]; congr 1; omega
      have h2 := near_le hD (hn t') (by
        have : (W : Int) ≤ ((D * V t' : Nat) : Int) := by rw [Int.natCast_mul, e1, Int.mul_neg]; omega
        omega)
      omega
  · intro c j hc hle
    rw [hv]
    cases neg
    · simp only [sgn, Bool.false_eq_true, if_false] at hle ⊢
      have hc0 : 0 ≤ c := by
        by_cases q : 0 ≤ c
        · exact q
        · have := Int.mul_neg_of_pos_of_neg hD' (Int.mul_neg_of_neg_of_pos (show c < 0 by omega) (pp j)); omega
      obtain ⟨t', hv', _⟩ := V_surj j c.natAbs hc
      have e1 : ((V t' : Nat) : Int) = c * 2 ^ j := by rw [hv', cast]; congr 1; omega
      have h2 := near_le hD (hn t') (by
        have : (W : Int) ≤ ((D * V t' : Nat) : Int) := by rw [Int.natCast_mul, e1]; exact hle
        omega)
      omega
    · simp only [sgn, if_true] at hle ⊢
      by_cases hc0 : 0 ≤ c
      · have := Int.mul_nonneg hc0 (Int.le_of_lt (pp j))
        omega
      · obtain ⟨t', hv', _⟩ := V_surj j c.natAbs hc
        have e1 : ((V t' : Nat) : Int) = -(c * 2 ^ j) := by rw [hv', cast, ← Int.neg_mul]; congr 1; omega
        have h2 := near_ge hD (hn t') (by
          have : ((D * V t' : Nat) : Int) ≤ W := by rw [Int.natCast_mul, e1, Int.mul_neg]; omega
          omega)
        omega

/-- the same against the quotient n / d -/
theorem q_bounds {r : UInt64} {W D : Nat} {n d : Int} (h : Right r (decide (n < 0)) W D) (hD : 0 < D) (hd : 0 < d) (hn : n.natAbs < 2 ^ 70) (hWd : W * d.natAbs = n.natAbs * 2 ^ 1074 * D) :
    ∃ m e, decode r = .fin (decide (n < 0)) m e ∧ (∀ (c : Int) (j : Nat), c.natAbs < 2 ^ 53 → d * (c * 2 ^ j) ≤ n * 2 ^ 1074 → c * 2 ^ j ≤ val r) ∧
      (∀ (c : Int) (j : Nat), c.natAbs < 2 ^ 53 → n * 2 ^ 1074 ≤ d * (c * 2 ^ j) → val r ≤ c * 2 ^ j) := by
  have hD' : (0 : Int) < D := by omega
  have hW : W ≤ D * 2 ^ 1150 := by
    have h1 : W * 1 ≤ W * d.natAbs := Nat.mul_le_mul_left W (by omega)
    have h2 : n.natAbs * 2 ^ 1074 ≤ 2 ^ 1150 := by
      have : n.natAbs * 2 ^ 1074 ≤ 2 ^ 70 * 2 ^ 1074 := Nat.mul_le_mul_right _ (by omega)
      refine Nat.le_trans this ?_
      rw [← Nat.pow_add]
      exact Nat.pow_le_pow_right (by decide) (by decide)
    have h3 := Nat.mul_le_mul_right D h2
    rw [Nat.mul_comm (2 ^ 1150) D] at h3
    rw [Nat.mul_one, hWd] at h1
    exact Nat.le_trans h1 h3
  have hs : sgn (decide (n < 0)) W * d = n * 2 ^ 1074 * D := by
    have e1 : ((W * d.natAbs : Nat) : Int) = n.natAbs * 2 ^ 1074 * D := by rw [hWd]; simp
    rw [Int.natCast_mul, show ((d.natAbs : Nat) : Int) = d by omega] at e1
    unfold sgn
    by_cases c : n < 0
    · simp only [c, decide_true, if_true]
      rw [Int.neg_mul, e1, ← Int.neg_mul, ← Int.neg_mul]
      congr 2
      omega
    · simp only [c, decide_false, Bool.false_eq_true, if_false]
      rw [e1]
      congr 2
      omega
  obtain ⟨m, e, hde, hlo, hhi⟩ := right_bounds h hD hW
  refine ⟨m, e, hde, fun c j hc hle => hlo c j hc ?_, fun c j hc hle => hhi c j hc ?_⟩
  · refine Int.le_of_mul_le_mul_right ?_ hd
    rw [hs]
    have := Int.mul_le_mul_of_nonneg_right hle (Int.le_of_lt hD')
    have e : (D : Int) * (c * 2 ^ j) * d = d * (c * 2 ^ j) * D := by ac_rfl
    rw [e]; exact this
  · refine Int.le_of_mul_le_mul_right ?_ hd
    rw [hs]
    have := Int.mul_le_mul_of_nonneg_right hle (Int.le_of_lt hD')
    have e : (D : Int) * (c * 2 ^ j) * d = d * (c * 2 ^ j) * D := by ac_rfl
    rw [e]; exact this

theorem two1074 : (2 : Int) ^ 1074 = 1048576 * 2 ^ 1054 := by
  rw [show (1074 : Nat) = 20 + 1054 from rfl, Int.pow_add]; rfl

theorem q_floor {r : UInt64} {W D : Nat} {n d : Int} (h : Right r (decide (n < 0)) W D) (hD : 0 < D) (hd : 0 < d) (hd' : d ≤ 1048576) (hn : n.natAbs < 2 ^ 70) (hWd : W * d.natAbs = n.natAbs * 2 ^ 1074 * D)
    (k1 : -4294967296 < n / d) (k2 : n / d < 4294967295) : Fl r (n / d) ∧ Ce r (-((-n) / d)) := by
  obtain ⟨m, e, hde, hlo, hhi⟩ := q_bounds h hD hd hn hWd
  have pp : ∀ k : Nat, (0 : Int) < 2 ^ k := fun k => Int.pow_pos (by decide)
  have a1 : d * (n / d) ≤ n := Int.mul_ediv_self_le (by omega)
  have a2 : n < d * (n / d) + d := Int.lt_mul_ediv_self_add hd
  have b1 : d * ((-n) / d) ≤ -n := Int.mul_ediv_self_le (by omega)
  have b2 : -n < d * ((-n) / d) + d := Int.lt_mul_ediv_self_add hd
  generalize hk : n / d = k at *
  have c1 : -4294967296 < (-n) / d + 1 ∧ (-n) / d < 4294967297 := by
    constructor
    · rw [show (-4294967296 : Int) < (-n) / d + 1 ↔ -4294967296 ≤ (-n) / d by omega]
      refine (Int.le_ediv_iff_mul_le hd).mpr ?_
      have : -4294967296 * d ≤ -(d * (k + 1)) := by
        have := Int.mul_le_mul_of_nonneg_left (show k + 1 ≤ 4294967296 by omega) (Int.le_of_lt hd)
        omega
      rw [Int.mul_add] at this
      omega
    · refine (Int.ediv_lt_iff_lt_mul hd).mpr ?_
      have : -(d * k) < 4294967297 * d := by
        have := Int.mul_le_mul_of_nonneg_left (show -4294967295 ≤ k by omega) (Int.le_of_lt hd)
        omega
      omega
  generalize hk' : (-n) / d = k' at *
  have lo := hlo k 1074 (by omega) (by rw [← Int.mul_assoc]; exact Int.mul_le_mul_of_nonneg_right a1 (Int.le_of_lt (pp _)))
  have hi := hhi (k * 1048576 + 1048575) 1054 (by omega) (by
    rw [two1074, ← Int.mul_assoc, ← Int.mul_assoc]
    refine Int.mul_le_mul_of_nonneg_right ?_ (Int.le_of_lt (pp _))
    have : d * (k * 1048576 + 1048575) = (d * k) * 1048576 + d * 1048575 := by rw [Int.mul_add, Int.mul_assoc]
    rw [this]
    generalize d * k = z at *
    omega)
  have hi' := hhi (-k') 1074 (by omega) (by
    rw [← Int.mul_assoc]
    refine Int.mul_le_mul_of_nonneg_right ?_ (Int.le_of_lt (pp _))
    rw [Int.mul_neg]; omega)
  have lo' := hlo (-k' * 1048576 - 1048575) 1054 (by omega) (by
    rw [two1074, ← Int.mul_assoc, ← Int.mul_assoc]
    refine Int.mul_le_mul_of_nonneg_right ?_ (Int.le_of_lt (pp _))
    have : d * (-k' * 1048576 - 1048575) = -(d * k') * 1048576 - d * 1048575 := by rw [Int.mul_sub, ← Int.mul_assoc, Int.mul_neg]
    rw [this]
    generalize d * k' = z at *
    omega)
  have q := pp 1054
  constructor
  · refine fl_of hde lo ?_
    rw [two1074, ← Int.mul_assoc]
    refine Int.lt_of_le_of_lt hi (Int.mul_lt_mul_of_pos_right ?_ q)
    omega
  · refine ce_of hde ?_ hi'
    rw [two1074, ← Int.mul_assoc]
    refine Int.lt_of_lt_of_le (Int.mul_lt_mul_of_pos_right ?_ q) lo'
    omega

/-- x = n 2^e and y = d 2^e, d positive: the quotient is n / d -/
theorem div_q {x y : UInt64} {a b n d : Int} {i j e : Nat} (hx : Dy x a i) (hy : Dy y b j) (ea : a * 2 ^ i = n * 2 ^ e) (eb : b * 2 ^ j = d * 2 ^ e) (hd : 0 < d) :
    ∃ W D, Right (div x y) (decide (n < 0)) W D ∧ 0 < D ∧ W * d.natAbs = n.natAbs * 2 ^ 1074 * D := by
  obtain ⟨m, f, hd1, hv⟩ := hx.dec
  obtain ⟨m', f', hd2, hv'⟩ := hy.dec
  have pp : ∀ k : Nat, (0 : Int) < 2 ^ k := fun k => Int.pow_pos (by decide)
  have sg : ∀ {u v : Int} {p q : Nat}, u * 2 ^ p = v * 2 ^ q → decide (u < 0) = decide (v < 0) := by
    intro u v p q h
    apply decide_eq_decide.mpr
    constructor
    · intro hu
      have := Int.mul_neg_of_neg_of_pos hu (pp p)
      rw [h] at this
      by_cases c : v < 0
      · exact c
      · have := Int.mul_nonneg (show 0 ≤ v by omega) (Int.le_of_lt (pp q)); omega
    · intro hu
      have := Int.mul_neg_of_neg_of_pos hu (pp q)
      rw [← h] at this
      by_cases c : u < 0
      · exact c
      · have := Int.mul_nonneg (show 0 ≤ u by omega) (Int.le_of_lt (pp p)); omega
  have hk : m' ≠ 0 := by
    intro h0
    have h1 := val_natAbs hd2
    rw [h0, Nat.zero_mul, hv', eb] at h1
    have := Int.mul_pos hd (pp e)
    omega
  have hr := div_right hd1 hd2 hk
  have hb : decide (b < 0) = false := by rw [sg eb]; simp; omega
  rw [hb, Bool.bne_false, sg ea, hv, hv', ea, eb] at hr
  refine ⟨_, _, hr, ?_, ?_⟩
  · have := Int.mul_pos hd (pp e); omega
  · rw [Int.natAbs_mul, Int.natAbs_mul, Int.natAbs_pow]
    generalize (Int.natAbs 2 ^ e : Nat) = z
    generalize (2 : Nat) ^ 1074 = u
    ac_rfl

theorem div_fc {x y : UInt64} {a b n d : Int} {i j e : Nat} (hx : Dy x a i) (hy : Dy y b j) (ea : a * 2 ^ i = n * 2 ^ e) (eb : b * 2 ^ j = d * 2 ^ e) (hd : 0 < d) (hd' : d ≤ 1048576) (hn : n.natAbs < 2 ^ 70)
    (k1 : -4294967296 < n / d) (k2 : n / d < 4294967295) : Fl (div x y) (n / d) ∧ Ce (div x y) (-((-n) / d)) := by
  obtain ⟨W, D, hr, hD, hW⟩ := div_q hx hy ea eb hd
  exact q_floor hr hD hd hd' hn hW k1 k2

theorem div_Hi {a b : Int} (ha : a.natAbs < 2 ^ 53) (hb : 0 < b) (hb' : b ≤ 524288) (k1 : -4294967296 < a / (2 * b)) (k2 : a / (2 * b) < 4294967295) :
    Fl (div (H a) (ofInt b)) (a / (2 * b)) ∧ Ce (div (H a) (ofInt b)) (-((-a) / (2 * b))) :=
  div_fc (dyH ha) (dyI (by omega)) (e := 1073) rfl (pow_up b) (by omega) (by omega) (by omega) k1 k2
theorem div_HH {a b : Int} (ha : a.natAbs < 2 ^ 53) (hb : 0 < b) (hb' : b ≤ 1048576) (k1 : -4294967296 < a / b) (k2 : a / b < 4294967295) :
    Fl (div (H a) (H b)) (a / b) ∧ Ce (div (H a) (H b)) (-((-a) / b)) :=
  div_fc (dyH ha) (dyH (by omega)) (e := 1073) rfl rfl (by omega) (by omega) (by omega) k1 k2

theorem frac_ii {a b : Int} (hb : 0 < b) (hb' : b ≤ 1048576) (ha : a.natAbs < 2 ^ 70) (k1 : -4294967296 < a / b) (k2 : a / b < 4294967295) :
    Fl (ofFrac (decide (a < 0) != decide (b < 0)) a.natAbs b.natAbs) (a / b) ∧ Ce (ofFrac (decide (a < 0) != decide (b < 0)) a.natAbs b.natAbs) (-((-a) / b)) := by
  have e : decide (b < 0) = false := by simp; omega
  rw [e, Bool.bne_false]
  exact q_floor (n := a) (d := b) (W := a.natAbs * 2 ^ 1074) (D := b.natAbs) (ofFrac_right (by omega) rfl (by omega)) (by omega) hb hb' ha rfl k1 k2
theorem frac_H (a : Int) : ofFrac (decide (a < 0) != decide ((2 : Int) < 0)) a.natAbs (2 : Int).natAbs = H a := by
  have e : decide ((2 : Int) < 0) = false := by decide
  rw [e, Bool.bne_false]; rfl

/-- whole parts of H -/
theorem fl_H {a : Int} (ha : a.natAbs < 2 ^ 53) : Fl (H a) (a / 2) := by
  obtain ⟨m, e, hd, hv⟩ := (dyH ha).dec
  refine fl_of hd ?_ ?_
  · rw [hv, pow_up]; exact Int.mul_le_mul_of_nonneg_right (by omega) (Int.le_of_lt (Int.pow_pos (by decide)))
  · rw [hv, pow_up]; exact Int.mul_lt_mul_of_pos_right (by omega) (Int.pow_pos (by decide))
theorem ce_H {a : Int} (ha : a.natAbs < 2 ^ 53) : Ce (H a) ((a + 1) / 2) := by
  obtain ⟨m, e, hd, hv⟩ := (dyH ha).dec
  refine ce_of hd ?_ ?_
  · rw [hv, pow_up]; exact Int.mul_lt_mul_of_pos_right (by omega) (Int.pow_pos (by decide))
  · rw [hv, pow_up]; exact Int.mul_le_mul_of_nonneg_right (by omega) (Int.le_of_lt (Int.pow_pos (by decide)))
theorem tr_H {a : Int} (ha : a.natAbs < 2 ^ 53) (h0 : 0 ≤ a) : Tr (H a) (a / 2) := tr_of_fl (fl_H ha) (by omega)

theorem cmp_scale {p q K : Int} (hK : 0 < K) : compare (p * K) (q * K) = compare p q := by
  rcases Int.lt_trichotomy p q with h | h | h
  · rw [Int.compare_eq_lt.mpr h, Int.compare_eq_lt.mpr (Int.mul_lt_mul_of_pos_right h hK)]
  · subst h; simp
  · rw [Int.compare_eq_gt.mpr h, Int.compare_eq_gt.mpr (Int.mul_lt_mul_of_pos_right h hK)]
theorem cmp_H {a b : Int} (ha : a.natAbs < 2 ^ 53) (hb : b.natAbs < 2 ^ 53) : cmp (H a) (H b) = some (compare a b) := by
  obtain ⟨m, e, hd, hv⟩ := (dyH ha).dec
  obtain ⟨m', e', hd', hv'⟩ := (dyH hb).dec
  rw [cmp_right hd hd', hv, hv', cmp_scale (Int.pow_pos (by decide))]
theorem cmpInt_H {a i : Int} (ha : a.natAbs < 2 ^ 53) : cmpInt (H a) i = some (compare a (2 * i)) := by
  obtain ⟨m, e, hd, hv⟩ := (dyH ha).dec
  rw [cmpInt_right hd, hv, pow_up, cmp_scale (Int.pow_pos (by decide))]
theorem lt_bool_of {a b : Int} : (some (compare a b) == some Ordering.lt) = decide (a < b) := by
  rcases Int.lt_trichotomy a b with h | h | h
  · rw [Int.compare_eq_lt.mpr h]; simp [h]
  · subst h; simp
  · rw [Int.compare_eq_gt.mpr h]
    have : ¬ a < b := by omega
    simp [this]
theorem eq_bool_of {a b : Int} : (some (compare a b) == some Ordering.eq) = decide (a = b) := by
  rcases Int.lt_trichotomy a b with h | h | h
  · rw [Int.compare_eq_lt.mpr h]
    have : ¬ a = b := by omega
    simp [this]
  · subst h; simp
  · rw [Int.compare_eq_gt.mpr h]
    have : ¬ a = b := by omega
    simp [this]

end
section
open PySem PySem.W PyProof.Rows PySem.Spec PySem.Calls
open PySem.Float64 PySem.Flt
set_option maxRecDepth 100000

theorem lit_greg : (4700144277945057280 : UInt64) = H 3442851 := by decide +kernel
theorem lit_isl : (4701119295650791424 : UInt64) = H 3896879 := by decide +kernel
theorem lit_cop : (4700589253736792064 : UInt64) = H 3650059 := by decide +kernel
theorem lit_arm : (4701007892789067776 : UInt64) = H 3845003 := by decide +kernel
theorem lit_sar : (4701801086275551232 : UInt64) = H 4234421 := by decide +kernel
theorem lit_half : (4602678819172646912 : UInt64) = H 1 := by decide +kernel
theorem lit_29h : (4628996729495093248 : UInt64) = H 59 := by decide +kernel
theorem lit_15245 : (4654419637352529920 : UInt64) = H 3049 := by decide +kernel

abbrev L365 : UInt64 := 4645133162144333824
abbrev L306 : UInt64 := 4629306380116972641
abbrev L122 : UInt64 := 4638292440600962662
theorem dy365 : Dy L365 1461 1072 := ⟨4645133162144333824, by decide +kernel, by decide +kernel, by decide +kernel⟩
theorem dy306 : Dy L306 8613162434843745 1026 := ⟨4629306380116972641, by decide +kernel, by decide +kernel, by decide +kernel⟩
theorem dy122 : Dy L122 4296011832046387 1029 := ⟨4638292440600962662, by decide +kernel, by decide +kernel, by decide +kernel⟩

/-- x lies at K or above, and well below K + 1 -/
def Bd (x : UInt64) (K : Int) : Prop := ∃ s m e, decode x = .fin s m e ∧ K * 2 ^ 1074 ≤ val x ∧ val x ≤ (K * 1048576 + 1048575) * 2 ^ 1054
theorem Bd.fl {x : UInt64} {K : Int} (h : Bd x K) : Fl x K := by
  obtain ⟨s, m, e, hd, h1, h2⟩ := h
  refine fl_of hd h1 ?_
  rw [two1074, ← Int.mul_assoc]
  exact Int.lt_of_le_of_lt h2 (Int.mul_lt_mul_of_pos_right (by omega) (Int.pow_pos (by decide)))

theorem q_bd {r : UInt64} {W D : Nat} {n d k : Int} (h : Right r (decide (n < 0)) W D) (hD : 0 < D) (hd : 0 < d) (hn : n.natAbs < 2 ^ 70) (hWd : W * d.natAbs = n.natAbs * 2 ^ 1074 * D)
    (hk : k.natAbs < 4294967296) (c1 : d * k ≤ n) (c2 : n * 1048576 ≤ d * (k * 1048576 + 1048575)) : Bd r k := by
  obtain ⟨m, e, hde, hlo, hhi⟩ := q_bounds h hD hd hn hWd
  have pp : ∀ k : Nat, (0 : Int) < 2 ^ k := fun k => Int.pow_pos (by decide)
  have lo := hlo k 1074 (by omega) (by rw [← Int.mul_assoc]; exact Int.mul_le_mul_of_nonneg_right c1 (Int.le_of_lt (pp _)))
  have hi := hhi (k * 1048576 + 1048575) 1054 (by omega) (by
    rw [two1074, ← Int.mul_assoc, ← Int.mul_assoc]
    exact Int.mul_le_mul_of_nonneg_right c2 (Int.le_of_lt (pp _)))
  exact ⟨_, m, e, hde, lo, hi⟩

theorem val_zero (s : Bool) : ∃ m e, decode (zero s) = .fin s m e ∧ val (zero s) = 0 := by
  cases s
  · exact ⟨0, -1074, by with_unfolding_all rfl, by decide +kernel⟩
  · exact ⟨0, -1074, by with_unfolding_all rfl, by decide +kernel⟩

theorem sgn_decide (Z : Int) : sgn (decide (Z < 0)) Z.natAbs = Z := by
  unfold sgn
  by_cases c : Z < 0
  · simp only [c, decide_true, if_true]; omega
  · simp only [c, decide_false, Bool.false_eq_true, if_false]; omega
/-- a sum's bounds -/
theorem add_bounds {x y : UInt64} {a b : Bool} {m k : Nat} {e f : Int} (hx : decode x = .fin a m e) (hy : decode y = .fin b k f) (hs : (val x + val y).natAbs ≤ 2 ^ 1150) :
    ∃ s m e, decode (add x y) = .fin s m e ∧ (∀ (c : Int) (j : Nat), c.natAbs < 2 ^ 53 → c * 2 ^ j ≤ val x + val y → c * 2 ^ j ≤ val (add x y)) ∧
      (∀ (c : Int) (j : Nat), c.natAbs < 2 ^ 53 → val x + val y ≤ c * 2 ^ j → val (add x y) ≤ c * 2 ^ j) := by
  have h := add_right hx hy
  by_cases hz : val x + val y = 0
  · rw [h.1 hz, hz]
    obtain ⟨m', e', hd, hv⟩ := val_zero (a && b)
    exact ⟨_, m', e', hd, fun c j _ q => by rw [hv]; exact q, fun c j _ q => by rw [hv]; exact q⟩
  · obtain ⟨m', e', hd, hlo, hhi⟩ := right_bounds (h.2 hz) (by decide) (by rw [Nat.one_mul]; exact hs)
    rw [sgn_decide] at hlo hhi
    refine ⟨_, m', e', hd, fun c j hc q => hlo c j hc ?_, fun c j hc q => hhi c j hc ?_⟩
    · rw [show ((1 : Nat) : Int) = 1 from rfl, Int.one_mul]; exact q
    · rw [show ((1 : Nat) : Int) = 1 from rfl, Int.one_mul]; exact q
theorem bound_pow {z : Int} (j : Nat) (hj : j ≤ 1090) (h1 : -(1152921504606846976 * 2 ^ j) ≤ z) (h2 : z ≤ 1152921504606846976 * 2 ^ j) : z.natAbs ≤ 2 ^ 1150 := by
  have h3 : z.natAbs ≤ (1152921504606846976 * 2 ^ j : Int).natAbs := by
    generalize (1152921504606846976 * 2 ^ j : Int) = u at *
    omega
  have h4 : (1152921504606846976 * 2 ^ j : Int).natAbs = 1152921504606846976 * 2 ^ j := by rw [Int.natAbs_mul, Int.natAbs_pow]; rfl
  rw [h4] at h3
  refine Nat.le_trans h3 ?_
  have h5 : 1152921504606846976 * 2 ^ j ≤ 1152921504606846976 * 2 ^ 1090 := Nat.mul_le_mul_left _ (Nat.pow_le_pow_right (by decide) hj)
  refine Nat.le_trans h5 ?_
  rw [show 1152921504606846976 = 2 ^ 60 from rfl, ← Nat.pow_add]
  exact Nat.pow_le_pow_right (by decide) (by decide)

theorem bd_add {x : UInt64} {K b : Int} (h : Bd x K) (hK : K.natAbs < 1000000000) (hb : b.natAbs < 1000000000) : Bd (add x (ofInt b)) (K + b) := by
  obtain ⟨s, m, e, hd, h1, h2⟩ := h
  obtain ⟨m', e', hd', hv⟩ := (dyI (n := b) (by omega)).dec
  have pp : (0 : Int) < 2 ^ 1054 := Int.pow_pos (by decide)
  rw [two1074, ← Int.mul_assoc] at h1 hv
  obtain ⟨s', m'', e'', hd'', hlo, hhi⟩ := add_bounds hd hd' (bound_pow 1054 (by decide)
    (by rw [hv]
        have := Int.mul_le_mul_of_nonneg_right (show -1152921504606846976 ≤ K * 1048576 + b * 1048576 by omega) (Int.le_of_lt pp)
        rw [Int.add_mul, Int.neg_mul] at this
        omega)
    (by rw [hv]
        have := Int.mul_le_mul_of_nonneg_right (show K * 1048576 + 1048575 + b * 1048576 ≤ 1152921504606846976 by omega) (Int.le_of_lt pp)
        rw [Int.add_mul _ (b * 1048576)] at this
        omega))
  refine ⟨s', m'', e'', hd'', ?_, ?_⟩
  · have e1 : (K + b) * 2 ^ 1074 = ((K + b) * 1048576) * 2 ^ 1054 := by rw [two1074, ← Int.mul_assoc]
    rw [e1]
    refine hlo _ _ (by omega) ?_
    rw [hv, Int.add_mul, Int.add_mul]
    omega
  · refine hhi _ _ (by omega) ?_
    rw [hv]
    have e2 : ((K + b) * 1048576 + 1048575) * 2 ^ 1054 = (K * 1048576 + 1048575) * 2 ^ 1054 + b * 1048576 * 2 ^ 1054 := by
      rw [← Int.add_mul]; congr 1; omega
    rw [e2]
    omega

/-- the day of the year that a Gregorian month opens with -/
theorem greg_d {m l d : Int} (h1 : 1 ≤ m) (h2 : m ≤ 12) (h3 : l.natAbs < 1000) (h5 : d.natAbs < 1000) :
    Fl (add (add (ofFrac (decide (367 * m - 362 < 0) != decide ((12 : Int) < 0)) (367 * m - 362).natAbs (12 : Int).natAbs) (ofInt l)) (ofInt d)) ((367 * m - 362) / 12 + l + d) := by
  have e : decide ((12 : Int) < 0) = false := by decide
  rw [e, Bool.bne_false]
  refine (bd_add (bd_add (q_bd (n := 367 * m - 362) (d := 12) (k := (367 * m - 362) / 12) (W := (367 * m - 362).natAbs * 2 ^ 1074) (D := (12 : Int).natAbs) (ofFrac_right (by decide) rfl (by decide)) (by decide) (by decide) (by omega) rfl (by omega) (by omega) (by omega)) (by omega) (by omega)) (by omega) (by omega)).fl

/-- the Julian month -/
theorem jul_e {n : Int} (h1 : 0 ≤ n) (h2 : n ≤ 1000) : Fl (div (ofInt n) L306) (10000 * n / 306001) := by
  obtain ⟨W, D, hr, hD, hW⟩ := div_q (n := n * 281474976710656) (d := 8613162434843745) (e := 1026) (dyI (n := n) (by omega)) dy306
    (by rw [show (1074 : Nat) = 48 + 1026 from rfl, Int.pow_add, ← Int.mul_assoc]; rfl) rfl (by decide)
  have hq : n = 0 ∨ 306001 * (10000 * n / 306001) + 1 ≤ 10000 * n := by
    by_cases c : 10000 * n = 306001 * (10000 * n / 306001)
    · left; omega
    · right; omega
  exact (q_bd hr hD (by decide) (by omega) hW (by omega) (by clear hW; omega) (by clear hW; omega)).fl

def flB (x : UInt64) (k : Int) : Bool := match decode x with
  | .fin s m e => floorOf s m e == k
  | _ => false
theorem fl_of_B {x : UInt64} {k : Int} (h : flB x k = true) : Fl x k := by
  unfold flB at h
  split at h
  · rename_i s m e hd; exact ⟨s, m, e, hd, by simpa using h⟩
  · cases h
def allTo (f : Nat → Bool) : Nat → Bool
  | 0 => true
  | n + 1 => f n && allTo f n
theorem allTo_at {f : Nat → Bool} : ∀ {n : Nat}, allTo f n = true → ∀ i, i < n → f i = true
  | 0, _, i, hi => absurd hi (Nat.not_lt_zero i)
  | n + 1, h, i, hi => by
    unfold allTo at h
    obtain ⟨h1, h2⟩ := Bool.and_eq_true_iff.mp h
    by_cases e : i = n
    · rw [e]; exact h1
    · exact allTo_at h2 i (by omega)
theorem jul_m_all : allTo (fun n => flB (mul L306 (ofInt (n : Int))) ((306001 * (n : Int)) / 10000)) 18 = true := by decide +kernel
theorem jul_m {n : Int} (h1 : 0 ≤ n) (h2 : n < 18) : Fl (mul L306 (ofInt n)) (306001 * n / 10000) := by
  have := allTo_at jul_m_all n.toNat (by omega)
  rw [Int.toNat_of_nonneg h1] at this
  exact fl_of_B this

theorem pow_add_mul (a : Int) (i j : Nat) : a * 2 ^ (i + j) = a * 2 ^ i * 2 ^ j := by rw [Int.pow_add, ← Int.mul_assoc]

/-- the Julian year -/
theorem jul_c {b : Int} (hb : b.natAbs < 1000000000000) : Fl (div (sub (ofInt b) L122) L365) ((20 * b - 2442) / 7305) := by
  obtain ⟨m, e, hd, hv⟩ := (dyI (n := b) (by omega)).dec
  obtain ⟨m', e', hd', hv'⟩ := dy122.dec
  have hn' := neg_decode hd'
  have hv2 := neg_val hd'
  have pp : (0 : Int) < 2 ^ 1029 := Int.pow_pos (by decide)
  have pp' : (0 : Int) < 2 ^ 1070 := Int.pow_pos (by decide)
  have ev : val (ofInt b) + val (neg L122) = (b * 35184372088832 - 4296011832046387) * 2 ^ 1029 := by
    rw [hv, hv2, hv', show (1074 : Nat) = 45 + 1029 from rfl, pow_add_mul, Int.sub_mul]
    rfl
  obtain ⟨s, mx, ex, hdx, hlo, hhi⟩ := add_bounds hd hn' (bound_pow 1070 (by decide)
    (by rw [ev, show (1070 : Nat) = 41 + 1029 from rfl, pow_add_mul, ← Int.neg_mul]
        exact Int.mul_le_mul_of_nonneg_right (by omega) (Int.le_of_lt pp))
    (by rw [ev, show (1070 : Nat) = 41 + 1029 from rfl, pow_add_mul]
        exact Int.mul_le_mul_of_nonneg_right (by omega) (Int.le_of_lt pp)))
  have lo := hlo (16 * b - 1954) 1070 (by omega) (by
    rw [ev, show (1070 : Nat) = 41 + 1029 from rfl, pow_add_mul]
    exact Int.mul_le_mul_of_nonneg_right (by omega) (Int.le_of_lt pp))
  have hi := hhi (16 * b - 1953) 1070 (by omega) (by
    rw [ev, show (1070 : Nat) = 41 + 1029 from rfl, pow_add_mul]
    exact Int.mul_le_mul_of_nonneg_right (by omega) (Int.le_of_lt pp))
  rw [show Float64.sub (ofInt b) L122 = add (ofInt b) (neg L122) from by unfold Float64.sub; rfl]
  generalize hx : add (ofInt b) (neg L122) = x at *
  obtain ⟨ml, el, hdl, hvl⟩ := dy365.dec
  have hml : ml ≠ 0 := by
    intro h0
    have h1 := val_natAbs hdl
    rw [h0, Nat.zero_mul, hvl] at h1
    have : (0 : Int) < 1461 * 2 ^ 1072 := Int.mul_pos (by decide) (Int.pow_pos (by decide))
    generalize (1461 * 2 ^ 1072 : Int) = u at *
    omega
  have hr := div_right hdx hdl hml
  have hbne : (s != decide ((1461 : Int) < 0)) = s := by
    rw [show decide ((1461 : Int) < 0) = false from by decide]; exact Bool.bne_false s
  rw [hbne, hvl] at hr
  have hD : 0 < (1461 * 2 ^ 1072 : Int).natAbs := by
    have : (0 : Int) < 1461 * 2 ^ 1072 := Int.mul_pos (by decide) (Int.pow_pos (by decide))
    omega
  have eD : (((1461 * 2 ^ 1072 : Int).natAbs : Nat) : Int) = 1461 * 2 ^ 1072 := by
    have : (0 : Int) < 1461 * 2 ^ 1072 := Int.mul_pos (by decide) (Int.pow_pos (by decide))
    omega
  have hsv : sgn s ((val x).natAbs * 2 ^ 1074) = val x * 2 ^ 1074 := by
    rw [sgn_mul]
    have : sgn s (val x).natAbs = val x := by
      rw [val_natAbs hdx, val_eq hdx]
    rw [this]; simp
  have hW : (val x).natAbs * 2 ^ 1074 ≤ (1461 * 2 ^ 1072 : Int).natAbs * 2 ^ 1150 := by
    have h0 : (val x).natAbs ≤ (1461 * 2 ^ 1072 : Int).natAbs * 2 ^ 60 := by
      have h1 : -(1152921504606846976 * (1461 * 2 ^ 1072)) ≤ val x := by
        refine Int.le_trans ?_ lo
        rw [show (1072 : Nat) = 2 + 1070 from rfl, pow_add_mul, ← Int.mul_assoc, ← Int.neg_mul]
        exact Int.mul_le_mul_of_nonneg_right (by omega) (Int.le_of_lt pp')
      have h2 : val x ≤ 1152921504606846976 * (1461 * 2 ^ 1072) := by
        refine Int.le_trans hi ?_
        rw [show (1072 : Nat) = 2 + 1070 from rfl, pow_add_mul, ← Int.mul_assoc]
        exact Int.mul_le_mul_of_nonneg_right (by omega) (Int.le_of_lt pp')
      rw [← eD] at h1 h2
      generalize (1461 * 2 ^ 1072 : Int).natAbs = u at *
      omega
    have h1 := Nat.mul_le_mul_right (2 ^ 1074) h0
    rw [Nat.mul_assoc, ← Nat.pow_add] at h1
    exact Nat.le_trans h1 (Nat.mul_le_mul_left _ (Nat.pow_le_pow_right (by decide) (by decide)))
  obtain ⟨mr, er, hdr, hlo', hhi'⟩ := right_bounds hr hD hW
  rw [hsv, eD] at hlo' hhi'
  have p72 : (0 : Int) < 2 ^ 1074 := Int.pow_pos (by decide)
  refine (show Bd _ _ from ⟨_, mr, er, hdr, hlo' _ _ (by omega) ?_, hhi' _ _ (by omega) ?_⟩).fl
  · rw [← Int.mul_assoc]
    refine Int.mul_le_mul_of_nonneg_right ?_ (Int.le_of_lt p72)
    refine Int.le_trans ?_ lo
    rw [show (1072 : Nat) = 2 + 1070 from rfl, pow_add_mul, Int.mul_right_comm]
    exact Int.mul_le_mul_of_nonneg_right (by omega) (Int.le_of_lt pp')
  · have hi2 := Int.mul_le_mul_of_nonneg_right hi (Int.le_of_lt p72)
    refine Int.le_trans hi2 ?_
    have p54 : (0 : Int) < 2 ^ 1054 := Int.pow_pos (by decide)
    rw [two1074, show (1072 : Nat) = 2 + 1070 from rfl, pow_add_mul]
    have e1 : (16 * b - 1953) * 2 ^ 1070 * (1048576 * 2 ^ 1054) = ((16 * b - 1953) * 1048576) * (2 ^ 1070 * 2 ^ 1054) := by ac_rfl
    have e2 : 1461 * 2 ^ 2 * 2 ^ 1070 * (((20 * b - 2442) / 7305 * 1048576 + 1048575) * 2 ^ 1054) = (1461 * 2 ^ 2 * ((20 * b - 2442) / 7305 * 1048576 + 1048575)) * (2 ^ 1070 * 2 ^ 1054) := by ac_rfl
    rw [e1, e2]
    exact Int.mul_le_mul_of_nonneg_right (by omega) (Int.le_of_lt (Int.mul_pos pp' p54))

/-- 365.25 years -/
theorem jul_d {c : Int} (hc : c.natAbs < 1000000000) : Fl (mul L365 (ofInt c)) (1461 * c / 4) := by
  have h := (mul_dy (k := 1072) dy365 (dyI (n := c) (by omega)) (by decide) (by omega) (by decide) (by decide)).1
  obtain ⟨m, e, hd, hv⟩ := h.dec
  have pp : (0 : Int) < 2 ^ 1072 := Int.pow_pos (by decide)
  refine fl_of hd ?_ ?_
  · rw [hv, show (1074 : Nat) = 2 + 1072 from rfl, pow_add_mul]
    exact Int.mul_le_mul_of_nonneg_right (by omega) (Int.le_of_lt pp)
  · rw [hv, show (1074 : Nat) = 2 + 1072 from rfl, pow_add_mul]
    exact Int.mul_lt_mul_of_pos_right (by omega) pp
/-- years of 365.25 days -/
theorem arm_y {a : Int} (ha : a.natAbs < 1000000000000) (k1 : -4294967296 < 2 * a / 1461) (k2 : 2 * a / 1461 < 4294967295) : Fl (div (H a) L365) (2 * a / 1461) :=
  (div_fc (n := 2 * a) (d := 1461) (e := 1072) (dyH (n := a) (by omega)) dy365 (by rw [show (1073 : Nat) = 1 + 1072 from rfl, pow_add_mul, Int.mul_comm a]; rfl) rfl (by decide) (by decide) (by omega) k1 k2).1

theorem mul_HI {a b : Int} (ha : 0 < a) (ha' : a.natAbs < 2 ^ 53) (hb : b.natAbs < 2 ^ 52) (hc : (a * b).natAbs < 2 ^ 53) : mul (H a) (ofInt b) = H (a * b) :=
  ((mul_dy (k := 1073) (dyH ha') (dyI (by omega)) ha hc (by decide) (by decide)).1).unique (dyH hc) rfl
theorem mul_HI' {a b : Int} (hb0 : 0 < b) (ha' : a.natAbs < 2 ^ 53) (hb : b.natAbs < 2 ^ 52) (hc : (b * a).natAbs < 2 ^ 53) : mul (H a) (ofInt b) = H (b * a) :=
  ((mul_dy (k := 1073) (dyI (by omega)) (dyH ha') hb0 hc (by decide) (by decide)).2).unique (dyH hc) rfl
theorem mul_IH {a b : Int} (hb0 : 0 < b) (ha' : a.natAbs < 2 ^ 53) (hb : b.natAbs < 2 ^ 52) (hc : (b * a).natAbs < 2 ^ 53) : mul (ofInt b) (H a) = H (b * a) :=
  ((mul_dy (k := 1073) (dyI (by omega)) (dyH ha') hb0 hc (by decide) (by decide)).1).unique (dyH hc) rfl

end
section
open PySem PySem.W PyProof.Rows PySem.Spec PySem.Calls
open PySem.Float64 PySem.Flt
set_option maxRecDepth 100000

theorem fmod_right {x y : UInt64} {a b : Bool} {m k : Nat} {e f : Int} (hx : decode x = .fin a m e) (hy : decode y = .fin b k f) (hk : k ≠ 0) :
    Right (Float64.fmod x y) a ((val x).natAbs % (val y).natAbs) 1 := by
  have he := decode_ge hx
  have hf := decode_ge hy
  have hfm : Float64.fmod x y = ofBin a ((m * 2 ^ (e - min e f).toNat) % (k * 2 ^ (f - min e f).toNat)) (min e f) := by
    unfold Float64.fmod
    rw [hx, hy]
    simp only
    rw [if_neg (by simpa using hk)]
    unfold align sgn
    simp only [Bool.false_eq_true, if_false, Int.toNat_natCast]
  rw [hfm]
  unfold ofBin
  have hW : (val x).natAbs % (val y).natAbs = (m * 2 ^ (e - min e f).toNat) % (k * 2 ^ (f - min e f).toNat) * 2 ^ (min e f + 1074).toNat := by
    rw [val_natAbs hx, val_natAbs hy]
    have e1 : (e + 1074).toNat = (e - min e f).toNat + (min e f + 1074).toNat := by omega
    have e2 : (f + 1074).toNat = (f - min e f).toNat + (min e f + 1074).toNat := by omega
    rw [e1, e2, Nat.pow_add, Nat.pow_add, ← Nat.mul_assoc, ← Nat.mul_assoc, Nat.mul_mod_mul_right]
  generalize (m * 2 ^ (e - min e f).toNat) % (k * 2 ^ (f - min e f).toNat) = M at *
  refine ofFrac_right (shift_pos _ _ _ (by decide)) ?_ (by decide)
  have := shift_one M (min e f) 1074 (by omega)
  rw [hW, Nat.mul_one]
  exact this

theorem copysign_zero {y : UInt64} {n : Int} {j : Nat} (h : Dy y n j) (hn : 0 < n) : copysign (zero false) y = H 0 := by
  obtain ⟨t, rfl, ht, hv⟩ := h
  have e0 : decide (n < 0) = false := by simp; omega
  rw [e0]
  have h1 : isNaN (zero false) = false := by decide +kernel
  have h2 : signBit (pack false t) = false := by
    unfold signBit
    have hi : infMag = 2047 * 2 ^ 52 := rfl
    rw [pack_toNat false (by omega)]
    have : ((if false = true then 2 ^ 63 else 0) + t) / 2 ^ 63 = 0 := by simp; omega
    rw [this]; rfl
  unfold copysign
  rw [h1, h2, H_zero]
  decide +kernel

theorem mod_dm {x y : UInt64} : (Float64.divmod x y).2 = if isZero (Float64.fmod x y) then copysign (zero false) y else if (Float64.lt y (zero false) != Float64.lt (Float64.fmod x y) (zero false)) = true then add (Float64.fmod x y) y else Float64.fmod x y := by
  unfold Float64.divmod
  simp only
  split
  · rfl
  · split <;> rfl

theorem isZero_of {x : UInt64} {s : Bool} {m : Nat} {e : Int} (h : decode x = .fin s m e) : isZero x = decide (m = 0) := by
  unfold isZero
  rw [h]
  cases m <;> simp

theorem lt_zero_of {x : UInt64} {n : Int} {j : Nat} (h : Dy x n j) : Float64.lt x (zero false) = decide (n < 0) := by
  obtain ⟨m, e, hd, hv⟩ := h.dec
  obtain ⟨m', e', hd', hv'⟩ := val_zero false
  unfold Float64.lt
  rw [cmp_right hd hd', hv', hv, lt_bool_of]
  have pp : (0 : Int) < 2 ^ j := Int.pow_pos (by decide)
  apply decide_eq_decide.mpr
  constructor
  · intro q
    by_cases c : n < 0
    · exact c
    · have := Int.mul_nonneg (show 0 ≤ n by omega) (Int.le_of_lt pp); omega
  · intro q; exact Int.mul_neg_of_neg_of_pos q pp

theorem emod_abs {a d : Int} (hd : 0 < d) : (0 ≤ a → a % d = ((a.natAbs % d.natAbs : Nat) : Int)) ∧ (a < 0 → a.natAbs % d.natAbs = 0 → a % d = 0) ∧ (a < 0 → a.natAbs % d.natAbs ≠ 0 → a % d = d - ((a.natAbs % d.natAbs : Nat) : Int)) := by
  have h1 := Nat.div_add_mod a.natAbs d.natAbs
  have h2 := Nat.mod_lt a.natAbs (show 0 < d.natAbs by omega)
  generalize a.natAbs % d.natAbs = r at *
  generalize a.natAbs / d.natAbs = q at *
  have h3 : (a.natAbs : Int) = d * q + r := by rw [← h1, Int.natCast_add, Int.natCast_mul, show ((d.natAbs : Nat) : Int) = d by omega]
  refine ⟨fun h => ?_, fun h h0 => ?_, fun h h0 => ?_⟩
  · exact ((Int.ediv_emod_unique (q := q) hd).mpr ⟨by omega, by omega, by omega⟩).2
  · exact ((Int.ediv_emod_unique (q := -q) hd).mpr ⟨by rw [Int.mul_neg]; omega, by omega, by omega⟩).2
  · exact ((Int.ediv_emod_unique (q := -q - 1) hd).mpr ⟨by rw [Int.mul_sub, Int.mul_neg]; omega, by omega, by omega⟩).2
theorem mod_H {a b : Int} (ha : a.natAbs < 2 ^ 52) (hb : 0 < b) (hb' : b < 2 ^ 50) : (Float64.divmod (H a) (ofInt b)).2 = H (a % (2 * b)) := by
  have hx := dyH (n := a) (by omega)
  have hy := dyI (n := b) (by omega)
  obtain ⟨m, e, hd, hv⟩ := hx.dec
  obtain ⟨m', e', hd', hv'⟩ := hy.dec
  have pp : (0 : Int) < 2 ^ 1074 := Int.pow_pos (by decide)
  have hk : m' ≠ 0 := by
    intro h0
    have h1 := val_natAbs hd'
    rw [h0, Nat.zero_mul, hv'] at h1
    have := Int.mul_pos hb pp
    omega
  have hr := fmod_right hd hd' hk
  have hW : (val (H a)).natAbs % (val (ofInt b)).natAbs = (a.natAbs % (2 * b).natAbs) * 2 ^ 1073 := by
    rw [hv, hv', pow_up, Int.natAbs_mul, Int.natAbs_mul (2 * b), Int.natAbs_pow, Nat.mul_mod_mul_right]
    rfl
  rw [hW] at hr
  rw [mod_dm]
  have hrr : a.natAbs % (2 * b).natAbs < (2 * b).natAbs := Nat.mod_lt _ (by omega)
  obtain ⟨m1, m2, m3⟩ := emod_abs (a := a) (d := 2 * b) (by omega)
  by_cases hz : a.natAbs % (2 * b).natAbs = 0
  · rw [hz, Nat.zero_mul] at hr
    obtain ⟨t, he, ht, hn⟩ := right_lt hr (by decide) (Nat.zero_le _)
    have h0 := near_le (by decide) (hn 0) (Nat.zero_le _)
    rw [V_zero] at h0
    have ht0 : t = 0 := V_inj (by rw [V_zero]; omega)
    have hzero : isZero (Float64.fmod (H a) (ofInt b)) = true := by
      rw [he, ht0]
      cases decide (a < 0) <;> decide +kernel
    rw [if_pos hzero, copysign_zero hy hb]
    congr 1
    by_cases c : a < 0
    · exact (m2 c hz).symm
    · rw [m1 (by omega), hz]; rfl
  · have hdy : Dy (Float64.fmod (H a) (ofInt b)) (if a < 0 then -((a.natAbs % (2 * b).natAbs : Nat) : Int) else ((a.natAbs % (2 * b).natAbs : Nat) : Int)) 1073 := by
      have es : decide (a < 0) = decide ((if a < 0 then -((a.natAbs % (2 * b).natAbs : Nat) : Int) else ((a.natAbs % (2 * b).natAbs : Nat) : Int)) < 0) := by
        apply decide_eq_decide.mpr
        split <;> omega
      rw [es] at hr
      refine right_dy hr (by decide) (by decide) (by split <;> omega) ?_
      rw [Nat.one_mul]
      congr 1
      split <;> omega
    obtain ⟨mf, ef, hdf, hvf⟩ := hdy.dec
    have hnz : isZero (Float64.fmod (H a) (ofInt b)) = false := by
      rw [isZero_of hdf]
      apply decide_eq_false
      intro h0
      have h1 := val_natAbs hdf
      rw [h0, Nat.zero_mul, hvf, Int.natAbs_mul] at h1
      have h2 : (2 ^ 1073 : Int).natAbs ≠ 0 := by rw [Int.natAbs_pow]; exact Nat.ne_of_gt (Nat.two_pow_pos _)
      rcases Nat.mul_eq_zero.mp h1 with q | q
      · split at q <;> omega
      · exact h2 q
    rw [if_neg (by rw [hnz]; decide), lt_zero_of hy, lt_zero_of hdy]
    have e0 : decide (b < 0) = false := by simp; omega
    rw [e0]
    by_cases c : a < 0
    · simp only [c, if_true] at hdy ⊢
      have e1 : decide (-((a.natAbs % (2 * b).natAbs : Nat) : Int) < 0) = true := by simp; omega
      rw [e1, if_pos (by decide), hdy.unique (dyH (n := -((a.natAbs % (2 * b).natAbs : Nat) : Int)) (by omega)) rfl, ofInt_H (by omega), add_H (by omega) (by omega) (by omega)]
      congr 1
      rw [m3 c hz]
      omega
    · simp only [c, if_false] at hdy ⊢
      have e1 : decide (((a.natAbs % (2 * b).natAbs : Nat) : Int) < 0) = false := by simp; omega
      rw [e1, if_neg (by decide), hdy.unique (dyH (n := ((a.natAbs % (2 * b).natAbs : Nat) : Int)) (by omega)) rfl]
      congr 1
      exact (m1 (by omega)).symm

end
section
set_option maxRecDepth 100000
def gj (y m d : Int) : Int := 1721425 + 365 * (y - 1) + (y - 1) / 4 - (y - 1) / 100 + (y - 1) / 400 + (367 * m - 362) / 12 + (if m ≤ 2 then 0 else if y % 4 = 0 ∧ (y % 100 ≠ 0 ∨ y % 400 = 0) then -1 else -2) + d
def ij (y m d : Int) : Int := d + (59 * (m - 1) + 1) / 2 + 354 * (y - 1) + (3 + 11 * y) / 30 + 1948439

/-- how far into the sizes the rest reaches, and what is left -/
def offI : List Int → Int → Int × Int
  | [], r => (0, r)
  | a :: t, r => if a ≤ r then ((offI t (r - a)).1 + 1, (offI t (r - a)).2) else (0, r)

abbrev thirty : List Int := [354, 355, 354, 354, 355, 354, 355, 354, 354, 355, 354, 354, 355, 354, 354, 355, 354, 355, 354, 354, 355, 354, 354, 355, 354, 355, 354, 354, 355, 354]
abbrev third : List Int := [365, 365, 366, 365]
abbrev fourth : List Int := [365, 365, 365, 366]
abbrev plain1 : List Int := [365]
def szs (kind size : Int) : List Int :=
  if kind = 0 then [30, 29, 30, 29, 30, 29, 30, 29, 30, 29, 30, size - 325]
  else if kind = 1 then [30, 30, 30, 30, 30, 30, 30, 30, 30, 30, 30, 30, size - 360]
  else [31, size - 337, 31, 30, 31, 30, 31, 31, 30, 31, 30, 31]

/-- what the law's own count tells of a day: the year, its length, the days of it gone by -/
def lY (first year : Int) (cyc : List Int) (day : Int) : Int := year + (day - first) / cyc.sum * cyc.length + (offI cyc ((day - first) % cyc.sum)).1
def lS (first : Int) (cyc : List Int) (day : Int) : Int := cyc.getD (offI cyc ((day - first) % cyc.sum)).1.toNat 0
def lR (first : Int) (cyc : List Int) (day : Int) : Int := (offI cyc ((day - first) % cyc.sum)).2
def lM (first : Int) (cyc : List Int) (kind day : Int) : Int := (offI (szs kind (lS first cyc day)) (lR first cyc day)).1 + 1
def lD (first : Int) (cyc : List Int) (kind day : Int) : Int := (offI (szs kind (lS first cyc day)) (lR first cyc day)).2 + 1


theorem off_at : ∀ (cyc : List Int) (p : Nat) (r : Int), (∀ a ∈ cyc, 0 ≤ a) → p < cyc.length → (cyc.take p).sum ≤ r → r < (cyc.take (p + 1)).sum → offI cyc r = ((p : Int), r - (cyc.take p).sum)
  | [], p, r, _, h, _, _ => absurd h (by simp)
  | a :: t, 0, r, _, _, h1, h2 => by
    simp at h1 h2
    unfold offI
    rw [if_neg (by omega)]
    simp
  | a :: t, p + 1, r, hn, h, h1, h2 => by
    have hs : ∀ (l : List Int), (∀ a ∈ l, 0 ≤ a) → 0 ≤ l.sum := fun l => by
      induction l with
      | nil => intro _; simp
      | cons b l ih => intro q; have := ih (fun c hc => q c (.tail _ hc)); have := q b (.head _); simp; omega
    have h3 : 0 ≤ (t.take p).sum := hs _ fun c hc => hn c (.tail _ (List.mem_of_mem_take hc))
    simp only [List.take_succ_cons, List.sum_cons] at h1 h2
    unfold offI
    rw [if_pos (by omega), off_at t p (r - a) (fun c hc => hn c (.tail _ hc)) (by simpa using h) (by omega) (by omega)]
    simp only [List.take_succ_cons, List.sum_cons]
    ext
    · simp
    · simp; omega

theorem thirty_sums : ∀ p < 31, (thirty.take p).sum = 354 * (p : Int) + (11 * (p : Int) + 14) / 30 := by decide +kernel
theorem thirty_at : ∀ p < 30, thirty.getD p 0 = 354 + (if (11 * (p : Int) + 25) % 30 < 11 then 1 else 0) := by decide +kernel
theorem off_thirty {r : Int} (h0 : 0 ≤ r) (h1 : r < 10631) : ∃ p : Int, offI thirty r = (p, r - (354 * p + (11 * p + 14) / 30)) ∧ 0 ≤ p ∧ p ≤ 29 ∧ thirty.getD p.toNat 0 = 354 + (if (11 * p + 25) % 30 < 11 then 1 else 0) ∧
    0 ≤ r - (354 * p + (11 * p + 14) / 30) ∧ r - (354 * p + (11 * p + 14) / 30) < thirty.getD p.toNat 0 := by
  have hp : ∃ p : Nat, (p : Int) = (30 * r + 10646) / 10631 - 1 := ⟨((30 * r + 10646) / 10631 - 1).toNat, by omega⟩
  obtain ⟨p, hp⟩ := hp
  have hp30 : p < 30 := by omega
  have s1 := thirty_sums p (by omega)
  have s2 := thirty_sums (p + 1) (by omega)
  have s3 := thirty_at p hp30
  refine ⟨p, ?_, by omega, by omega, by rw [Int.toNat_natCast]; exact s3, ?_, ?_⟩
  · rw [off_at thirty p r (by decide) (by simpa using hp30) (by omega) (by omega), s1]
  · omega
  · rw [Int.toNat_natCast, s3]
    have hq : (11 * (p : Int) + 14) / 30 = (11 * (p : Int) + 25) / 30 ∨ (11 * (p : Int) + 14) / 30 + 1 = (11 * (p : Int) + 25) / 30 := by omega
    rcases hq with hq | hq <;> split <;> omega

abbrev islY (day : Int) : Int := lY 1948440 1 thirty day
abbrev islS (day : Int) : Int := lS 1948440 thirty day
abbrev islR (day : Int) : Int := lR 1948440 thirty day
abbrev islM (day : Int) : Int := lM 1948440 thirty 0 day
abbrev islD (day : Int) : Int := lD 1948440 thirty 0 day

theorem isl_year (day : Int) : islY day = (30 * (day - 1948440) + 10646) / 10631 ∧ day = 1948440 + 354 * (islY day - 1) + (3 + 11 * islY day) / 30 + islR day ∧ 0 ≤ islR day ∧ islR day < islS day ∧
    ((islS day = 355 ∧ (11 * islY day + 14) % 30 < 11) ∨ (islS day = 354 ∧ 11 ≤ (11 * islY day + 14) % 30)) := by
  have e1 : thirty.sum = 10631 := by decide +kernel
  have e2 : (thirty.length : Int) = 30 := by decide +kernel
  unfold islY islS islR lY lS lR
  rw [e1, e2]
  obtain ⟨p, hp, p0, p1, hs, r0, r1⟩ := off_thirty (r := (day - 1948440) % 10631) (by omega) (by omega)
  rw [hp]
  dsimp only
  rw [hs] at r1 ⊢
  generalize hx : day - 1948440 = x at *
  have hq : 10631 * (x / 10631) + x % 10631 = x := Int.mul_ediv_add_emod x 10631
  generalize x / 10631 = q at *
  generalize x % 10631 = rr at *
  have h3 : (3 + 11 * (1 + q * 30 + p)) / 30 = 11 * q + (11 * p + 14) / 30 := by omega
  have h4 : (11 * (1 + q * 30 + p) + 14) % 30 = (11 * p + 25) % 30 := by omega
  have hq : (11 * p + 14) / 30 = (11 * p + 25) / 30 ∨ (11 * p + 14) / 30 + 1 = (11 * p + 25) / 30 := by omega
  rw [h3, h4]
  refine ⟨?_, by omega, by omega, by omega, ?_⟩
  · rcases hq with hq | hq <;> split at r1 <;> omega
  · split <;> omega

theorem off_k0 {r s : Int} (h0 : 0 ≤ r) (h1 : r < s) (hs : s = 354 ∨ s = 355) : ∃ m : Int, offI (szs 0 s) r = (m - 1, r - (59 * (m - 1) + 1) / 2) ∧ 1 ≤ m ∧ m ≤ 12 ∧ (59 * (m - 1) + 1) / 2 ≤ r ∧ (m = 12 ∨ r < (59 * m + 1) / 2) ∧
    (szs 0 s).getD (m - 1).toNat 0 = (if m = 12 then s - 325 else 29 + m % 2) := by
  have hp : ∃ p : Nat, (p : Int) = min 11 (2 * r / 59) := ⟨(min 11 (2 * r / 59)).toNat, by omega⟩
  obtain ⟨p, hp⟩ := hp
  have hp12 : p < 12 := by omega
  have t1 : ∀ s : Int, s = 354 ∨ s = 355 → ∀ p < 12, ((szs 0 s).take p).sum = (59 * (p : Int) + 1) / 2 ∧ ((szs 0 s).take (p + 1)).sum = (if p = 11 then s else (59 * ((p : Int) + 1) + 1) / 2) ∧ (szs 0 s).getD p 0 = (if p = 11 then s - 325 else 29 + ((p : Int) + 1) % 2) := by
    intro s hs
    rcases hs with rfl | rfl <;> decide +kernel
  obtain ⟨a1, a2, a3⟩ := t1 s hs p hp12
  refine ⟨p + 1, ?_, by omega, by omega, ?_, ?_, ?_⟩
  · rw [off_at (szs 0 s) p r (by rcases hs with rfl | rfl <;> decide) (by simpa [szs] using hp12) (by rw [a1]; omega) (by rw [a2]; split <;> omega), a1]
    ext
    · simp
    · dsimp only; omega
  · omega
  · omega
  · have : ((p : Int) + 1 - 1).toNat = p := by omega
    rw [this, a3]
    split <;> split <;> omega

theorem off_k1 {r s : Int} (h0 : 0 ≤ r) (h1 : r < s) (hs : s = 365 ∨ s = 366) : offI (szs 1 s) r = (r / 30, r % 30) ∧ (szs 1 s).getD (r / 30).toNat 0 = (if r / 30 = 12 then s - 360 else 30) := by
  have hp : ∃ p : Nat, (p : Int) = r / 30 := ⟨(r / 30).toNat, by omega⟩
  obtain ⟨p, hp⟩ := hp
  have hp13 : p < 13 := by omega
  have t1 : ∀ s : Int, s = 365 ∨ s = 366 → ∀ p < 13, ((szs 1 s).take p).sum = 30 * (p : Int) ∧ ((szs 1 s).take (p + 1)).sum = (if p = 12 then s else 30 * ((p : Int) + 1)) ∧ (szs 1 s).getD p 0 = (if p = 12 then s - 360 else 30) := by
    intro s hs
    rcases hs with rfl | rfl <;> decide +kernel
  obtain ⟨a1, a2, a3⟩ := t1 s hs p hp13
  constructor
  · rw [off_at (szs 1 s) p r (by rcases hs with rfl | rfl <;> decide) (by simpa [szs] using hp13) (by rw [a1]; omega) (by rw [a2]; split <;> omega), a1]
    ext
    · exact hp
    · dsimp only; omega
  · rw [← hp, Int.toNat_natCast, a3]
    split <;> split <;> omega

theorem off_k2 {r s : Int} (h0 : 0 ≤ r) (h1 : r < s) (hs : s = 365 ∨ s = 366) : ∃ m : Int, offI (szs 2 s) r = (m - 1, r - ((367 * m - 362) / 12 + (if m ≤ 2 then 0 else s - 367))) ∧ 1 ≤ m ∧ m ≤ 12 ∧
    m = (12 * (if r < s - 306 then r else r + 367 - s) + 373) / 367 ∧ (367 * m - 362) / 12 + (if m ≤ 2 then 0 else s - 367) ≤ r ∧ r < (367 * (m + 1) - 362) / 12 + (if m + 1 ≤ 2 then 0 else s - 367) := by
  have hp : ∃ p : Nat, (p : Int) + 1 = (12 * (if r < s - 306 then r else r + 367 - s) + 373) / 367 := ⟨((12 * (if r < s - 306 then r else r + 367 - s) + 373) / 367 - 1).toNat, by split <;> omega⟩
  obtain ⟨p, hp⟩ := hp
  have hp12 : p < 12 := by split at hp <;> omega
  have t1 : ∀ s : Int, s = 365 ∨ s = 366 → ∀ p < 13, ((szs 2 s).take p).sum = (367 * ((p : Int) + 1) - 362) / 12 + (if (p : Int) + 1 ≤ 2 then 0 else s - 367) := by
    intro s hs
    rcases hs with rfl | rfl <;> decide +kernel
  have a1 := t1 s hs p (by omega)
  have a2 := t1 s hs (p + 1) (by omega)
  have b1 : (367 * ((p : Int) + 1) - 362) / 12 + (if (p : Int) + 1 ≤ 2 then 0 else s - 367) ≤ r := by
    split at hp <;> split <;> omega
  have b2 : r < (367 * ((p : Int) + 1 + 1) - 362) / 12 + (if (p : Int) + 1 + 1 ≤ 2 then 0 else s - 367) := by
    split at hp <;> split <;> omega
  refine ⟨p + 1, ?_, by omega, by omega, hp, b1, b2⟩
  rw [off_at (szs 2 s) p r (by rcases hs with rfl | rfl <;> decide) (by simpa [szs] using hp12) (by rw [a1]; exact b1) (by rw [a2]; exact b2), a1]
  ext
  · simp
  · rfl
theorem isl_month (day : Int) : 1 ≤ islM day ∧ islM day ≤ 12 ∧ (59 * (islM day - 1) + 1) / 2 ≤ islR day ∧ (islM day = 12 ∨ islR day < (59 * islM day + 1) / 2) ∧ islD day = islR day - (59 * (islM day - 1) + 1) / 2 + 1 ∧ (szs 0 (islS day)).getD (islM day - 1).toNat 0 = (if islM day = 12 then islS day - 325 else 29 + islM day % 2) := by
  obtain ⟨_, _, h0, h1, hs⟩ := isl_year day
  obtain ⟨m, e, a, b, c, d, f⟩ := off_k0 (r := islR day) (s := islS day) h0 h1 (by omega)
  have e1 : islM day = m := by
    show (offI (szs 0 (islS day)) (islR day)).1 + 1 = m
    rw [e]; dsimp only; omega
  have e2 : islD day = islR day - (59 * (m - 1) + 1) / 2 + 1 := by
    show (offI (szs 0 (islS day)) (islR day)).2 + 1 = _
    rw [e]
  rw [e2, e1]
  exact ⟨a, b, c, d, rfl, f⟩

end
section
set_option maxRecDepth 100000

abbrev latY (day : Int) : Int := lY 1721424 1 fourth day
abbrev latS (day : Int) : Int := lS 1721424 fourth day
abbrev latR (day : Int) : Int := lR 1721424 fourth day
abbrev latM (day : Int) : Int := lM 1721424 fourth 2 day
abbrev latD (day : Int) : Int := lD 1721424 fourth 2 day
abbrev copY (day : Int) : Int := lY 1825030 1 third day
abbrev copS (day : Int) : Int := lS 1825030 third day
abbrev copR (day : Int) : Int := lR 1825030 third day
abbrev copM (day : Int) : Int := lM 1825030 third 1 day
abbrev copD (day : Int) : Int := lD 1825030 third 1 day
abbrev armY (day : Int) : Int := lY 1922868 1 plain1 day
abbrev armS (day : Int) : Int := lS 1922868 plain1 day
abbrev armR (day : Int) : Int := lR 1922868 plain1 day
abbrev armM (day : Int) : Int := lM 1922868 plain1 1 day
abbrev armD (day : Int) : Int := lD 1922868 plain1 1 day
abbrev sarY (day : Int) : Int := lY 2117212 533 fourth day
abbrev sarS (day : Int) : Int := lS 2117212 fourth day
abbrev sarR (day : Int) : Int := lR 2117212 fourth day
abbrev sarM (day : Int) : Int := lM 2117212 fourth 1 day
abbrev sarD (day : Int) : Int := lD 2117212 fourth 1 day

theorem off_fourth {r : Int} (h0 : 0 ≤ r) (h1 : r < 1461) : ∃ p : Int, offI fourth r = (p, r - 365 * p) ∧ 0 ≤ p ∧ p ≤ 3 ∧ p = min 3 (r / 365) ∧ fourth.getD p.toNat 0 = (if p = 3 then 366 else 365) := by
  have hp : ∃ p : Nat, (p : Int) = min 3 (r / 365) := ⟨(min 3 (r / 365)).toNat, by omega⟩
  obtain ⟨p, hp⟩ := hp
  have hp4 : p < 4 := by omega
  have t1 : ∀ p < 4, (fourth.take p).sum = 365 * (p : Int) ∧ (fourth.take (p + 1)).sum = (if p = 3 then 1461 else 365 * ((p : Int) + 1)) ∧ fourth.getD p 0 = (if p = 3 then 366 else 365) := by decide +kernel
  obtain ⟨a1, a2, a3⟩ := t1 p hp4
  refine ⟨p, ?_, by omega, by omega, hp, ?_⟩
  · rw [off_at fourth p r (by decide) (by simpa using hp4) (by rw [a1]; omega) (by rw [a2]; split <;> omega), a1]
  · rw [Int.toNat_natCast, a3]
    split <;> split <;> omega
theorem off_third {r : Int} (h0 : 0 ≤ r) (h1 : r < 1461) : ∃ p : Int, offI third r = (p, r - (365 * p + (if p = 3 then 1 else 0))) ∧ 0 ≤ p ∧ p ≤ 3 ∧ 0 ≤ r - (365 * p + (if p = 3 then 1 else 0)) ∧ r - (365 * p + (if p = 3 then 1 else 0)) < third.getD p.toNat 0 ∧ third.getD p.toNat 0 = (if p = 2 then 366 else 365) := by
  have hp : ∃ p : Nat, (p : Int) = if r < 1096 then min 2 (r / 365) else 3 := ⟨(if r < 1096 then min 2 (r / 365) else 3).toNat, by split <;> omega⟩
  obtain ⟨p, hp⟩ := hp
  have hp4 : p < 4 := by split at hp <;> omega
  have t1 : ∀ p < 4, (third.take p).sum = 365 * (p : Int) + (if (p : Int) = 3 then 1 else 0) ∧ (third.take (p + 1)).sum = 365 * (p : Int) + 365 + (if (p : Int) = 3 ∨ (p : Int) = 2 then 1 else 0) ∧ third.getD p 0 = (if (p : Int) = 2 then 366 else 365) := by decide +kernel
  obtain ⟨a1, a2, a3⟩ := t1 p hp4
  have b1 : 365 * (p : Int) + (if (p : Int) = 3 then 1 else 0) ≤ r := by
    split at hp <;> split <;> omega
  have b2 : r < 365 * (p : Int) + 365 + (if (p : Int) = 3 ∨ (p : Int) = 2 then 1 else 0) := by
    split at hp <;> split <;> omega
  refine ⟨p, ?_, by omega, by omega, by omega, ?_, ?_⟩
  · rw [off_at third p r (by decide) (by simpa using hp4) (by rw [a1]; exact b1) (by rw [a2]; exact b2), a1]
  · rw [Int.toNat_natCast, a3]
    split at b2 <;> split <;> split <;> omega
  · rw [Int.toNat_natCast, a3]

theorem lat_year (day : Int) : day = 1721424 + 365 * (latY day - 1) + (latY day - 1) / 4 + latR day ∧ 0 ≤ latR day ∧ latR day < latS day ∧ ((latS day = 366 ∧ latY day % 4 = 0) ∨ (latS day = 365 ∧ latY day % 4 ≠ 0)) := by
  have e1 : fourth.sum = 1461 := by decide +kernel
  have e2 : (fourth.length : Int) = 4 := by decide +kernel
  unfold latY latS latR lY lS lR
  rw [e1, e2]
  obtain ⟨p, hp, p0, p1, p2, hs⟩ := off_fourth (r := (day - 1721424) % 1461) (by omega) (by omega)
  rw [hp]
  dsimp only
  rw [hs]
  generalize hx : day - 1721424 = x at *
  have hq : 1461 * (x / 1461) + x % 1461 = x := Int.mul_ediv_add_emod x 1461
  have h8 : x % 1461 < 1461 := by omega
  have h9 : 0 ≤ x % 1461 := by omega
  generalize x / 1461 = q at *
  generalize x % 1461 = rr at *
  refine ⟨by omega, by omega, by split <;> omega, by split <;> omega⟩
theorem sar_year (day : Int) : day = 2117212 + 365 * (sarY day - 533) + (sarY day - 533) / 4 + sarR day ∧ 0 ≤ sarR day ∧ sarR day < sarS day ∧ ((sarS day = 366 ∧ sarY day % 4 = 0) ∨ (sarS day = 365 ∧ sarY day % 4 ≠ 0)) := by
  have e1 : fourth.sum = 1461 := by decide +kernel
  have e2 : (fourth.length : Int) = 4 := by decide +kernel
  unfold sarY sarS sarR lY lS lR
  rw [e1, e2]
  obtain ⟨p, hp, p0, p1, p2, hs⟩ := off_fourth (r := (day - 2117212) % 1461) (by omega) (by omega)
  rw [hp]
  dsimp only
  rw [hs]
  generalize hx : day - 2117212 = x at *
  have hq : 1461 * (x / 1461) + x % 1461 = x := Int.mul_ediv_add_emod x 1461
  have h8 : x % 1461 < 1461 := by omega
  have h9 : 0 ≤ x % 1461 := by omega
  generalize x / 1461 = q at *
  generalize x % 1461 = rr at *
  refine ⟨by omega, by omega, by split <;> omega, by split <;> omega⟩
theorem cop_year (day : Int) : day = 1825030 + 365 * (copY day - 1) + copY day / 4 + copR day ∧ 0 ≤ copR day ∧ copR day < copS day ∧ ((copS day = 366 ∧ copY day % 4 = 3) ∨ (copS day = 365 ∧ copY day % 4 ≠ 3)) := by
  have e1 : third.sum = 1461 := by decide +kernel
  have e2 : (third.length : Int) = 4 := by decide +kernel
  unfold copY copS copR lY lS lR
  rw [e1, e2]
  obtain ⟨p, hp, p0, p1, p2, p3, hs⟩ := off_third (r := (day - 1825030) % 1461) (by omega) (by omega)
  rw [hp]
  dsimp only
  rw [hs] at p3 ⊢
  generalize hx : day - 1825030 = x at *
  have hq : 1461 * (x / 1461) + x % 1461 = x := Int.mul_ediv_add_emod x 1461
  generalize x / 1461 = q at *
  generalize x % 1461 = rr at *
  have hp4 : p = 0 ∨ p = 1 ∨ p = 2 ∨ p = 3 := by omega
  rcases hp4 with rfl | rfl | rfl | rfl <;> simp at p2 p3 ⊢ <;> omega
theorem arm_year (day : Int) : armY day = 1 + (day - 1922868) / 365 ∧ armR day = (day - 1922868) % 365 ∧ armS day = 365 := by
  have e1 : plain1.sum = 365 := by decide +kernel
  have e2 : (plain1.length : Int) = 1 := by decide +kernel
  unfold armY armS armR lY lS lR
  rw [e1, e2]
  have h : offI plain1 ((day - 1922868) % 365) = (0, (day - 1922868) % 365) := by
    have : ¬ (365 : Int) ≤ (day - 1922868) % 365 := by omega
    simp [offI, this]
  rw [h]
  dsimp only
  refine ⟨by omega, rfl, rfl⟩

/-- the Gregorian date by the law's count -/
def romC (day : Int) : Int := min 3 ((day - 1721426) % 146097 / 36524)
def romQ (day : Int) : Int := min 24 (((day - 1721426) % 146097 - 36524 * romC day) / 1461)
def romJ (day : Int) : Int := min 3 (((day - 1721426) % 146097 - 36524 * romC day - 1461 * romQ day) / 365)
def romY (day : Int) : Int := 400 * ((day - 1721426) / 146097) + 1 + 100 * romC day + 4 * romQ day + romJ day
def romR (day : Int) : Int := (day - 1721426) % 146097 - 36524 * romC day - 1461 * romQ day - 365 * romJ day
def leapS (y : Int) : Int := if y % 4 = 0 ∧ (y % 100 ≠ 0 ∨ y % 400 = 0) then 366 else 365
def romM (day : Int) : Int := (offI (szs 2 (leapS (romY day))) (romR day)).1 + 1
def romD (day : Int) : Int := (offI (szs 2 (leapS (romY day))) (romR day)).2 + 1
theorem rom_year (day : Int) : day = 1721426 + 365 * (romY day - 1) + (romY day - 1) / 4 - (romY day - 1) / 100 + (romY day - 1) / 400 + romR day ∧ 0 ≤ romR day ∧ romR day < leapS (romY day) ∧
    0 ≤ romC day ∧ romC day ≤ 3 ∧ 0 ≤ romQ day ∧ romQ day ≤ 24 ∧ 0 ≤ romJ day ∧ romJ day ≤ 3 := by
  have hc : 0 ≤ romC day ∧ romC day ≤ 3 ∧ romC day = min 3 ((day - 1721426) % 146097 / 36524) := ⟨by unfold romC; omega, by unfold romC; omega, rfl⟩
  have hq : romQ day = min 24 (((day - 1721426) % 146097 - 36524 * romC day) / 1461) := rfl
  have hj : romJ day = min 3 (((day - 1721426) % 146097 - 36524 * romC day - 1461 * romQ day) / 365) := rfl
  have hy : romY day = 400 * ((day - 1721426) / 146097) + 1 + 100 * romC day + 4 * romQ day + romJ day := rfl
  have hr : romR day = (day - 1721426) % 146097 - 36524 * romC day - 1461 * romQ day - 365 * romJ day := rfl
  generalize romY day = Y at *
  generalize romR day = R at *
  generalize romC day = C at *
  generalize romQ day = Q at *
  generalize romJ day = J at *
  have hx : 146097 * ((day - 1721426) / 146097) + (day - 1721426) % 146097 = day - 1721426 := Int.mul_ediv_add_emod _ _
  have h8 : (day - 1721426) % 146097 < 146097 := by omega
  have h9 : 0 ≤ (day - 1721426) % 146097 := by omega
  generalize (day - 1721426) / 146097 = L at *
  generalize (day - 1721426) % 146097 = rr at *
  have q1 : 0 ≤ Q ∧ Q ≤ 24 := by omega
  have j1 : 0 ≤ J ∧ J ≤ 3 := by omega
  have y4 : (Y - 1) / 4 = 100 * L + 25 * C + Q := by omega
  have y100 : (Y - 1) / 100 = 4 * L + C := by omega
  have y400 : (Y - 1) / 400 = L := by omega
  rw [y4, y100, y400]
  refine ⟨by omega, by omega, ?_, by omega, by omega, by omega, by omega, by omega, by omega⟩
  unfold leapS
  split
  · omega
  · rename_i hn
    have h1 : J = 3 → Q = 24 ∧ C < 3 ∨ ¬ (J = 3) := by
      intro hJ
      by_cases c24 : Q = 24
      · by_cases c3 : C < 3
        · exact .inl ⟨c24, c3⟩
        · exfalso; apply hn; omega
      · exfalso; apply hn; omega
    by_cases hJ : J = 3
    · rcases h1 hJ with ⟨a, b⟩ | h
      · omega
      · exact absurd hJ h
    · omega

def cj (y m d : Int) : Int := d + 30 * (m - 1) + 365 * (y - 1) + y / 4 + 1825029
def jj (y m d : Int) : Int := if m ≤ 2 then 1461 * (y - 1 + 4716) / 4 + 306001 * (m + 12 + 1) / 10000 + d - 1524 else 1461 * (y + 4716) / 4 + 306001 * (m + 1) / 10000 + d - 1524
def aj (y m d : Int) : Int := 1922502 + 365 * y + 30 * (m - 1) + d
def sj (y m d : Int) : Int := 2117211 + 365 * (y - 533) + (y - 533) / 4 + 30 * (m - 1) + d

theorem legal_k2 {m r s : Int} (m1 : 1 ≤ m) (m2 : m ≤ 12) (hs : s = 365 ∨ s = 366) (h1 : (367 * m - 362) / 12 + (if m ≤ 2 then 0 else s - 367) ≤ r) (h2 : r < (367 * (m + 1) - 362) / 12 + (if m + 1 ≤ 2 then 0 else s - 367)) :
    r - ((367 * m - 362) / 12 + (if m ≤ 2 then 0 else s - 367)) + 1 ≤ 31 ∧ (m ≠ 2 ∨ r - ((367 * m - 362) / 12 + (if m ≤ 2 then 0 else s - 367)) + 1 ≤ s - 337) ∧
      (¬ (m = 4 ∨ m = 6 ∨ m = 9 ∨ m = 11) ∨ r - ((367 * m - 362) / 12 + (if m ≤ 2 then 0 else s - 367)) + 1 ≤ 30) := by
  have hm : m = 1 ∨ m = 2 ∨ m = 3 ∨ m = 4 ∨ m = 5 ∨ m = 6 ∨ m = 7 ∨ m = 8 ∨ m = 9 ∨ m = 10 ∨ m = 11 ∨ m = 12 := by omega
  rcases hm with rfl | rfl | rfl | rfl | rfl | rfl | rfl | rfl | rfl | rfl | rfl | rfl <;> simp at h1 h2 ⊢ <;> omega
/-- what a date of kind 2 obeys -/
abbrev K2 (m d r s : Int) : Prop := 1 ≤ m ∧ m ≤ 12 ∧ m = (12 * (if r < s - 306 then r else r + 367 - s) + 373) / 367 ∧ (367 * m - 362) / 12 + (if m ≤ 2 then 0 else s - 367) ≤ r ∧ r < (367 * (m + 1) - 362) / 12 + (if m + 1 ≤ 2 then 0 else s - 367) ∧
    d = r - ((367 * m - 362) / 12 + (if m ≤ 2 then 0 else s - 367)) + 1 ∧ 1 ≤ d ∧ d ≤ 31 ∧ (m ≠ 2 ∨ d ≤ s - 337) ∧ (¬ (m = 4 ∨ m = 6 ∨ m = 9 ∨ m = 11) ∨ d ≤ 30)
theorem k2_of {r s : Int} (h0 : 0 ≤ r) (h1 : r < s) (hs : s = 365 ∨ s = 366) : K2 ((offI (szs 2 s) r).1 + 1) ((offI (szs 2 s) r).2 + 1) r s := by
  obtain ⟨m, e, m1, m2, hm, b1, b2⟩ := off_k2 h0 h1 hs
  obtain ⟨c1, c2, c3⟩ := legal_k2 m1 m2 hs b1 b2
  have e1 : (offI (szs 2 s) r).1 + 1 = m := by rw [e]; dsimp only; omega
  have e2 : (offI (szs 2 s) r).2 + 1 = r - ((367 * m - 362) / 12 + (if m ≤ 2 then 0 else s - 367)) + 1 := by rw [e]
  rw [e1, e2]
  exact ⟨m1, m2, hm, b1, b2, rfl, by omega, c1, c2, c3⟩
theorem leapS_or (y : Int) : (leapS y = 366 ∧ y % 4 = 0 ∧ (y % 100 ≠ 0 ∨ y % 400 = 0)) ∨ (leapS y = 365 ∧ ¬ (y % 4 = 0 ∧ (y % 100 ≠ 0 ∨ y % 400 = 0))) := by
  unfold leapS
  split
  · rename_i h; exact .inl ⟨rfl, h⟩
  · rename_i h; exact .inr ⟨rfl, h⟩
theorem rom_month (day : Int) : K2 (romM day) (romD day) (romR day) (leapS (romY day)) := by
  obtain ⟨_, h0, h1, _⟩ := rom_year day
  exact k2_of h0 h1 (by have := leapS_or (romY day); omega)
theorem lat_month (day : Int) : K2 (latM day) (latD day) (latR day) (latS day) := by
  obtain ⟨_, h0, h1, h2⟩ := lat_year day
  exact k2_of h0 h1 (show latS day = 365 ∨ latS day = 366 by omega)
theorem k1_of {r s : Int} (h0 : 0 ≤ r) (h1 : r < s) (hs : s = 365 ∨ s = 366) : (offI (szs 1 s) r).1 + 1 = r / 30 + 1 ∧ (offI (szs 1 s) r).2 + 1 = r % 30 + 1 ∧ (szs 1 s).getD (r / 30).toNat 0 = (if r / 30 = 12 then s - 360 else 30) := by
  obtain ⟨e, f⟩ := off_k1 h0 h1 hs
  rw [e]
  exact ⟨rfl, rfl, f⟩
theorem cop_month (day : Int) : copM day = copR day / 30 + 1 ∧ copD day = copR day % 30 + 1 := by
  obtain ⟨_, h0, h1, h2⟩ := cop_year day
  obtain ⟨a, b, _⟩ := k1_of h0 h1 (show copS day = 365 ∨ copS day = 366 by omega)
  exact ⟨a, b⟩
theorem sar_month (day : Int) : sarM day = sarR day / 30 + 1 ∧ sarD day = sarR day % 30 + 1 := by
  obtain ⟨_, h0, h1, h2⟩ := sar_year day
  obtain ⟨a, b, _⟩ := k1_of h0 h1 (show sarS day = 365 ∨ sarS day = 366 by omega)
  exact ⟨a, b⟩
theorem arm_month (day : Int) : armM day = armR day / 30 + 1 ∧ armD day = armR day % 30 + 1 := by
  obtain ⟨_, h1, h2⟩ := arm_year day
  obtain ⟨a, b, _⟩ := k1_of (r := armR day) (s := armS day) (by omega) (by omega) (by omega)
  exact ⟨a, b⟩

/-- the Gregorian year by the program's own steps -/
theorem rom_float (day X L rr CC r1 QQ r2 JJ : Int) (hX : X = day - 1721426) (hL : X / 146097 = L) (hrr : X % 146097 = rr) (hCC : rr / 36524 = CC) (hr1 : rr % 36524 = r1) (hQQ : r1 / 1461 = QQ) (hr2 : r1 % 1461 = r2) (hJJ : r2 / 365 = JJ) :
    (CC = 4 ∧ L * 400 + CC * 100 + QQ * 4 + JJ = romY day ∧ romR day = 365 ∧ leapS (romY day) = 366) ∨ (CC ≠ 4 ∧ JJ = 4 ∧ L * 400 + CC * 100 + QQ * 4 + JJ = romY day ∧ romR day = 365 ∧ leapS (romY day) = 366) ∨
      (CC ≠ 4 ∧ JJ ≠ 4 ∧ L * 400 + CC * 100 + QQ * 4 + JJ + 1 = romY day) := by
  have hc : romC day = min 3 (rr / 36524) := by rw [← hrr, hX]; rfl
  have hq : romQ day = min 24 ((rr - 36524 * romC day) / 1461) := by rw [← hrr, hX]; rfl
  have hj : romJ day = min 3 ((rr - 36524 * romC day - 1461 * romQ day) / 365) := by rw [← hrr, hX]; rfl
  have hy : romY day = 400 * L + 1 + 100 * romC day + 4 * romQ day + romJ day := by rw [← hL, hX]; rfl
  have hr : romR day = rr - 36524 * romC day - 1461 * romQ day - 365 * romJ day := by rw [← hrr, hX]; rfl
  have h8 : rr < 146097 := by omega
  have h9 : 0 ≤ rr := by omega
  have hS := leapS_or (romY day)
  generalize romY day = Y at *
  generalize romR day = R at *
  generalize romC day = C at *
  generalize romQ day = Q at *
  generalize romJ day = J at *
  generalize leapS Y = S at *
  clear hL hrr hX
  by_cases h4 : CC = 4
  · left
    have a1 : rr = 146096 := by omega
    subst a1
    have a2 : C = 3 := by omega
    have a3 : Q = 24 := by omega
    have a4 : J = 3 := by omega
    have a5 : r1 = 0 := by omega
    omega
  · right
    have a2 : C = CC := by omega
    have a3 : rr - 36524 * C = r1 := by omega
    rw [a3] at hq hj
    have a4 : Q = QQ := by omega
    have a5 : r1 - 1461 * Q = r2 := by omega
    rw [a5] at hj
    by_cases hJ4 : JJ = 4
    · left
      have a6 : r2 = 1460 := by omega
      have a7 : J = 3 := by omega
      refine ⟨h4, hJ4, by omega, by omega, ?_⟩
      rcases hS with hS | hS
      · exact hS.1
      · exfalso; apply hS.2; omega
    · right
      exact ⟨h4, hJ4, by omega⟩

def mlj (y m : Int) : Int := if m = 2 then (if y % 4 = 0 then 29 else 28) else if m = 4 ∨ m = 6 ∨ m = 9 ∨ m = 11 then 30 else 31
def mli (y m : Int) : Int := if m = 12 then (if (11 * y + 14) % 30 < 11 then 30 else 29) else 29 + m % 2
def mlc (y m : Int) : Int := if m = 13 then (if y % 4 = 3 then 6 else 5) else 30
def mla (m : Int) : Int := if m = 13 then 5 else 30
def mls (y m : Int) : Int := if m = 13 then (if 533 ≤ y ∧ y % 4 = 0 then 6 else 5) else 30

theorem gj_rom (day : Int) : gj (romY day) (romM day) (romD day) = day := by
  obtain ⟨f1, f2, f3, _⟩ := rom_year day
  obtain ⟨g1, g2, g3, g4, g5, g6, g7, g8, g9, g10⟩ := rom_month day
  have hS := leapS_or (romY day)
  generalize romY day = Y at *
  generalize romR day = R at *
  generalize romM day = M at *
  generalize romD day = D at *
  generalize leapS Y = S at *
  clear g3 g9 g10
  unfold gj
  rcases hS with ⟨h1, h2⟩ | ⟨h1, h2⟩
  · rw [if_pos h2]; split <;> omega
  · rw [if_neg h2]; split <;> omega
theorem ij_isl (day : Int) : ij (islY day) (islM day) (islD day) = day := by
  obtain ⟨f1, f2, f3, f4, f5⟩ := isl_year day
  obtain ⟨g1, g2, g3, g4, g5, _⟩ := isl_month day
  unfold ij
  omega
theorem cj_cop (day : Int) : cj (copY day) (copM day) (copD day) = day := by
  obtain ⟨f1, f2, f3, f4⟩ := cop_year day
  obtain ⟨g1, g2⟩ := cop_month day
  unfold cj
  rw [g1, g2]
  omega
theorem aj_arm (day : Int) : aj (armY day) (armM day) (armD day) = day := by
  obtain ⟨f1, f2, f3⟩ := arm_year day
  obtain ⟨g1, g2⟩ := arm_month day
  unfold aj
  rw [g1, g2]
  omega
theorem sj_sar (day : Int) : sj (sarY day) (sarM day) (sarD day) = day := by
  obtain ⟨f1, f2, f3, f4⟩ := sar_year day
  obtain ⟨g1, g2⟩ := sar_month day
  unfold sj
  rw [g1, g2]
  omega
theorem jj_lat (day : Int) : jj (latY day) (latM day) (latD day) = day := by
  obtain ⟨f1, f2, f3, f4⟩ := lat_year day
  obtain ⟨g1, g2, g3, g4, g5, g6, g7, g8, g9, g10⟩ := lat_month day
  generalize latY day = Y at *
  generalize latR day = R at *
  generalize latM day = M at *
  generalize latD day = D at *
  generalize latS day = S at *
  clear g3 g9 g10
  unfold jj
  obtain ⟨q, j, hq, hj⟩ : ∃ q j : Int, Y = 4 * q + j ∧ (j = 0 ∨ j = 1 ∨ j = 2 ∨ j = 3) := ⟨Y / 4, Y % 4, by omega, by omega⟩
  have hm : M = 1 ∨ M = 2 ∨ M = 3 ∨ M = 4 ∨ M = 5 ∨ M = 6 ∨ M = 7 ∨ M = 8 ∨ M = 9 ∨ M = 10 ∨ M = 11 ∨ M = 12 := by omega
  rcases hj with rfl | rfl | rfl | rfl
  all_goals
    subst hq
    have hS : S = 365 ∨ S = 366 := by omega
    rcases hm with rfl | rfl | rfl | rfl | rfl | rfl | rfl | rfl | rfl | rfl | rfl | rfl <;> simp at g4 g5 g6 ⊢ <;> omega
/-- the Julian date by the program's own steps -/
theorem lat_float (day C Dd Ee Ff : Int) (hC : (20 * (day + 1524) - 2442) / 7305 = C) (hD : 1461 * C / 4 = Dd) (hE : 10000 * (day + 1524 - Dd) / 306001 = Ee) (hF : 306001 * Ee / 10000 = Ff) :
    latM day = (if Ee < 14 then Ee - 1 else Ee - 13) ∧ latY day = (if latM day > 2 then C - 4716 else C - 4715) ∧ latD day = day + 1524 - Dd - Ff ∧ 3 ≤ Ee ∧ Ee ≤ 15 ∧ 0 ≤ day + 1524 - Dd ∧ day + 1524 - Dd ≤ 500 := by
  obtain ⟨f1, f2, f3, f4⟩ := lat_year day
  obtain ⟨g1, g2, g3, g4, g5, g6, g7, g8, g9, g10⟩ := lat_month day
  generalize latY day = Y at *
  generalize latR day = R at *
  generalize latM day = M at *
  generalize latD day = D at *
  generalize latS day = S at *
  clear g3 g9 g10
  obtain ⟨q, j, hq, hj⟩ : ∃ q j : Int, Y = 4 * q + j ∧ (j = 0 ∨ j = 1 ∨ j = 2 ∨ j = 3) := ⟨Y / 4, Y % 4, by omega, by omega⟩
  have hm : M = 1 ∨ M = 2 ∨ M = 3 ∨ M = 4 ∨ M = 5 ∨ M = 6 ∨ M = 7 ∨ M = 8 ∨ M = 9 ∨ M = 10 ∨ M = 11 ∨ M = 12 := by omega
  have hR2 : M ≤ 2 → 0 ≤ R ∧ R < S - 306 := by
    intro c
    rcases hm with rfl | rfl | rfl | rfl | rfl | rfl | rfl | rfl | rfl | rfl | rfl | rfl <;> simp at g4 g5 g6 c ⊢ <;> omega
  have hR3 : 2 < M → S - 306 ≤ R ∧ R < S := by
    intro c
    rcases hm with rfl | rfl | rfl | rfl | rfl | rfl | rfl | rfl | rfl | rfl | rfl | rfl <;> simp at g4 g5 g6 c ⊢ <;> omega
  have hC2 : C = if M > 2 then Y + 4716 else Y + 4715 := by
    clear hD hE hF g4 g5 g6 hm
    rcases hj with rfl | rfl | rfl | rfl <;> subst hq <;> split <;> omega
  have hn : day + 1524 - Dd = if M > 2 then 64 + R - (S - 365) else 429 + R := by
    clear hC hE hF g4 g5 g6 hm
    subst hC2
    rcases hj with rfl | rfl | rfl | rfl <;> subst hq <;> split <;> (rename_i c; simp only [c, if_true, if_false] at hD; omega)
  rw [hn] at hE ⊢
  clear hn hC hD f1 f3 hR2 hR3
  have hS : S = 365 ∨ S = 366 := by omega
  clear f4 f2 hj hq
  have hEe : Ee = if M > 2 then M + 1 else M + 13 := by
    clear hF
    rcases hm with rfl | rfl | rfl | rfl | rfl | rfl | rfl | rfl | rfl | rfl | rfl | rfl <;> simp at g4 g5 g6 hE ⊢ <;> omega
  subst hEe
  subst hC2
  rcases hm with rfl | rfl | rfl | rfl | rfl | rfl | rfl | rfl | rfl | rfl | rfl | rfl <;> simp at g4 g5 g6 hE hF ⊢ <;> omega

/-- the state of the law's own count between two turns -/
def OffInv (ns : List Int) (r place rest : Int) : Prop :=
  rest < (ns.drop place.toNat).sum ∧ offI ns r = (place + (offI (ns.drop place.toNat) rest).1, (offI (ns.drop place.toNat) rest).2)
theorem offI_cons (a : Int) (t : List Int) (r : Int) : offI (a :: t) r = if a ≤ r then ((offI t (r - a)).1 + 1, (offI t (r - a)).2) else (0, r) := rfl
theorem off_start {ns : List Int} {r : Int} (h : r < ns.sum) : OffInv ns r 0 r := ⟨by simpa using h, by simp⟩
theorem off_turn {ns : List Int} {r place rest : Int} (h0 : 0 ≤ place) (h1 : place < ns.length) (h : OffInv ns r place rest) (hc : ns.getD place.toNat 0 ≤ rest) :
    OffInv ns r (place + 1) (rest - ns.getD place.toNat 0) ∧ place + 1 < ns.length := by
  obtain ⟨a, b⟩ := h
  obtain ⟨p, rfl⟩ : ∃ p : Nat, place = p := ⟨place.toNat, by omega⟩
  have hp : p < ns.length := by omega
  have e1 : ns.drop p = ns.getD p 0 :: ns.drop (p + 1) := by
    rw [List.drop_eq_getElem_cons hp]
    congr 1
    simp [List.getD_eq_getElem?_getD, hp]
  have e2 : ((p : Int) + 1).toNat = p + 1 := by omega
  rw [Int.toNat_natCast] at a b hc ⊢
  unfold OffInv
  rw [e2]
  rw [e1, List.sum_cons] at a
  rw [e1] at b
  rw [offI_cons, if_pos hc] at b
  refine ⟨⟨by omega, ?_⟩, ?_⟩
  · rw [b]
    ext
    · simp only; omega
    · rfl
  · by_cases q : p + 1 < ns.length
    · omega
    · have : ns.drop (p + 1) = [] := List.drop_eq_nil_of_le (by omega)
      rw [this, List.sum_nil] at a
      omega
theorem off_end {ns : List Int} {r place rest : Int} (h0 : 0 ≤ place) (h1 : place < ns.length) (h : OffInv ns r place rest) (hc : rest < ns.getD place.toNat 0) : (offI ns r).1 = place ∧ (offI ns r).2 = rest := by
  obtain ⟨a, b⟩ := h
  obtain ⟨p, rfl⟩ : ∃ p : Nat, place = p := ⟨place.toNat, by omega⟩
  have hp : p < ns.length := by omega
  have e1 : ns.drop p = ns.getD p 0 :: ns.drop (p + 1) := by
    rw [List.drop_eq_getElem_cons hp]
    congr 1
    simp [List.getD_eq_getElem?_getD, hp]
  rw [Int.toNat_natCast] at a b hc
  rw [e1] at b
  rw [offI_cons, if_neg (by omega)] at b
  rw [b]
  exact ⟨by simp, rfl⟩
theorem off_turn' {ns : List Int} {r place rest N : Int} (hN : (ns.length : Int) = N) (h : OffInv ns r place rest) (h0 : 0 ≤ place) (h1 : place < N) (h2 : 0 ≤ rest) (hc : ns.getD place.toNat 0 ≤ rest) :
    0 ≤ place + 1 ∧ place + 1 < N ∧ 0 ≤ rest - ns.getD place.toNat 0 ∧ OffInv ns r (place + 1) (rest - ns.getD place.toNat 0) := by
  obtain ⟨a, b⟩ := off_turn h0 (by omega) h hc
  exact ⟨by omega, by omega, by omega, a⟩
theorem off_end' {ns : List Int} {r place rest N : Int} (hN : (ns.length : Int) = N) (h : OffInv ns r place rest) (h0 : 0 ≤ place) (h1 : place < N) (hc : rest < ns.getD place.toNat 0) : place = (offI ns r).1 ∧ rest = (offI ns r).2 := by
  obtain ⟨a, b⟩ := off_end h0 (by omega) h hc
  exact ⟨a.symm, b.symm⟩

end
section
set_option maxRecDepth 100000
theorem leap_filt (y : Int) : 365 + (((List.filter (fun k => decide (y % k = 0)) [4, 100, 400]).length : Nat) : Int).fmod 2 = leapS y := by
  rw [Int.fmod_eq_emod_of_nonneg _ (by decide)]
  unfold leapS
  by_cases a : y % 4 = 0 <;> by_cases b : y % 100 = 0 <;> by_cases c : y % 400 = 0 <;> simp [List.filter, a, b, c] <;> omega
theorem filt_mod {y k : Int} (h : 0 < k) : (y.fmod k == 0) = decide (y % k = 0) := by
  rw [Int.fmod_eq_emod_of_nonneg _ (by omega)]
  rfl
theorem offI_b : ∀ (cyc : List Int) (r : Int), 0 ≤ r → r < cyc.sum → 0 ≤ (offI cyc r).1 ∧ (offI cyc r).1 < cyc.length ∧ 0 ≤ (offI cyc r).2 ∧ (offI cyc r).2 < cyc.getD (offI cyc r).1.toNat 0
  | [], r, h0, h1 => by rw [List.sum_nil] at h1; omega
  | a :: t, r, h0, h1 => by
    rw [List.sum_cons] at h1
    rw [offI_cons]
    by_cases h : a ≤ r
    · rw [if_pos h]
      obtain ⟨b1, b2, b3, b4⟩ := offI_b t (r - a) (by omega) (by omega)
      have e : ((offI t (r - a)).1 + 1).toNat = (offI t (r - a)).1.toNat + 1 := by omega
      refine ⟨by dsimp only; omega, by rw [List.length_cons]; dsimp only; omega, b3, ?_⟩
      dsimp only
      rw [e, List.getD_cons_succ]
      exact b4
    · rw [if_neg h]
      exact ⟨by dsimp only; omega, by rw [List.length_cons]; dsimp only; omega, h0, by dsimp only; rw [show (0 : Int).toNat = 0 from rfl, List.getD_cons_zero]; omega⟩
theorem szs_sum (k S : Int) : (szs k S).sum = S := by
  unfold szs
  split
  · simp only [List.sum_cons, List.sum_nil]; omega
  · split <;> (simp only [List.sum_cons, List.sum_nil]; omega)
theorem szs_len (k S : Int) : ((szs k S).length : Int) ≤ 100 := by
  unfold szs
  split
  · simp
  · split <;> simp
theorem date_gen (first year : Int) (cyc : List Int) (k day : Int) {sum len : Int} (hs : cyc.sum = sum) (hl : (cyc.length : Int) = len) (hp : 0 < sum) :
    ∃ q r p R S mo dd : Int, (day - first) / sum = q ∧ (day - first) % sum = r ∧ (offI cyc r).1 = p ∧ (offI cyc r).2 = R ∧ cyc.getD p.toNat 0 = S ∧ (offI (szs k S) R).1 = mo ∧ (offI (szs k S) R).2 = dd ∧
      lY first year cyc day = year + q * len + p ∧ lS first cyc day = S ∧ lM first cyc k day = mo + 1 ∧ lD first cyc k day = dd + 1 ∧
      0 ≤ r ∧ r < sum ∧ 0 ≤ p ∧ p < len ∧ 0 ≤ R ∧ R < (szs k S).sum ∧ day - first = sum * q + r := by
  subst hs; subst hl
  have h0 : 0 ≤ (day - first) % cyc.sum := Int.emod_nonneg _ (by omega)
  have h1 : (day - first) % cyc.sum < cyc.sum := Int.emod_lt_of_pos _ hp
  obtain ⟨b1, b2, b3, b4⟩ := offI_b cyc _ h0 h1
  refine ⟨_, _, _, _, _, _, _, rfl, rfl, rfl, rfl, rfl, rfl, rfl, rfl, rfl, rfl, rfl, h0, h1, b1, b2, b3, ?_, ?_⟩
  · rw [szs_sum]; exact b4
  · exact (Int.mul_ediv_add_emod _ _).symm
/-- the state of the law's Gregorian count in its last loop -/
def RomInv (day rest year : Int) : Prop := romY day - romJ day ≤ year ∧ year ≤ romY day ∧ rest = romR day + 365 * (romY day - year)
theorem rom_start {day L rr C Q : Int} (hL : (day - 1721426) / 146097 = L) (hr : (day - 1721426) % 146097 = rr) (hC : C = min 3 (rr / 36524)) (hQ : Q = min 24 ((rr - 36524 * C) / 1461)) :
    romY day - 3 ≤ 400 * L + 1 + 100 * C + 4 * Q ∧ 400 * L + 1 + 100 * C + 4 * Q ≤ romY day ∧ 0 ≤ rr - 36524 * C - 1461 * Q ∧ RomInv day (rr - 36524 * C - 1461 * Q) (400 * L + 1 + 100 * C + 4 * Q) := by
  subst hL; subst hr; subst hC; subst hQ
  obtain ⟨f1, f2, f3, f4, f5, f6, f7, f8, f9⟩ := rom_year day
  have hJ : romY day = 400 * ((day - 1721426) / 146097) + 1 + 100 * romC day + 4 * romQ day + romJ day := rfl
  have hR : romR day = (day - 1721426) % 146097 - 36524 * romC day - 1461 * romQ day - 365 * romJ day := rfl
  have e1 : min 3 ((day - 1721426) % 146097 / 36524) = romC day := rfl
  rw [e1]
  have e2 : min 24 (((day - 1721426) % 146097 - 36524 * romC day) / 1461) = romQ day := rfl
  rw [e2]
  unfold RomInv
  omega
theorem rom_turn {day rest year : Int} (h : RomInv day rest year) (h1 : romY day - 3 ≤ year) (h2 : year ≤ romY day) (hc : leapS year ≤ rest) :
    romY day - 3 ≤ year + 1 ∧ year + 1 ≤ romY day ∧ 0 ≤ rest - leapS year ∧ RomInv day (rest - leapS year) (year + 1) := by
  obtain ⟨a, b, c⟩ := h
  obtain ⟨f1, f2, f3, f4, f5, f6, f7, f8, f9⟩ := rom_year day
  have hJ : romY day = 400 * ((day - 1721426) / 146097) + 1 + 100 * romC day + 4 * romQ day + romJ day := rfl
  clear f1
  have hS := leapS_or year
  have hne : year ≠ romY day := by
    intro e
    rw [e] at c hc
    omega
  unfold RomInv
  have h365 : leapS year = 365 := by
    rcases hS with hS | hS
    · exfalso; omega
    · exact hS.1
  rw [h365] at hc ⊢
  omega
theorem rom_fin {day rest year : Int} (h : RomInv day rest year) (h0 : 0 ≤ rest) (h2 : year ≤ romY day) (hc : rest < leapS year) :
    year = romY day ∧ (offI (szs 2 (leapS year)) rest).1 + 1 = romM day ∧ (offI (szs 2 (leapS year)) rest).2 + 1 = romD day := by
  obtain ⟨a, b, c⟩ := h
  obtain ⟨f1, f2, f3, f4, f5, f6, f7, f8, f9⟩ := rom_year day
  have hS := leapS_or year
  have e1 : year = romY day := by
    have : leapS year ≤ 366 := by omega
    by_cases h : year = romY day
    · exact h
    · exfalso
      have hJ : romY day = 400 * ((day - 1721426) / 146097) + 1 + 100 * romC day + 4 * romQ day + romJ day := rfl
      rcases hS with hS | hS
      · omega
      · omega
  have e2 : rest = romR day := by rw [e1] at c; omega
  rw [e1, e2]
  exact ⟨rfl, rfl, rfl⟩
/-- the date behind a date -/
def NextIs (y m d : Int) (ns : List Int) (a b c : Int) : Prop :=
  (d < ns.getD (m - 1).toNat 0 ∧ a = y ∧ b = m ∧ c = d + 1) ∨ (¬ d < ns.getD (m - 1).toNat 0 ∧ m < ns.length ∧ a = y ∧ b = m + 1 ∧ c = 1) ∨ (¬ d < ns.getD (m - 1).toNat 0 ∧ ¬ m < ns.length ∧ a = y + 1 ∧ b = 1 ∧ c = 1)
/-- years counted by their lengths: the day behind -/
theorem next_k1 {Y R S M D Y' R' M' D' : Int} (h0 : 0 ≤ R) (h1 : R < S) (hS : S = 365 ∨ S = 366) (hM : M = R / 30 + 1) (hD : D = R % 30 + 1) (hM' : M' = R' / 30 + 1) (hD' : D' = R' % 30 + 1)
    (st : (R + 1 < S ∧ Y' = Y ∧ R' = R + 1) ∨ (R + 1 = S ∧ Y' = Y + 1 ∧ R' = 0)) : NextIs Y M D (szs 1 S) Y' M' D' := by
  obtain ⟨_, _, g⟩ := k1_of (r := R) (s := S) h0 h1 hS
  have hl : ((szs 1 S).length : Int) = 13 := rfl
  have e : (M - 1).toNat = (R / 30).toNat := by omega
  unfold NextIs
  rw [e, g, hl]
  clear g hl e
  rcases st with ⟨a, b, c⟩ | ⟨a, b, c⟩ <;> split <;> omega
theorem step4 {b c R R' S S' Y Y' x : Int} (f1 : x = b + 365 * (Y - c) + (Y - c) / 4 + R) (f2 : 0 ≤ R) (f3 : R < S) (f4 : (S = 366 ∧ (Y - c) % 4 = 3) ∨ (S = 365 ∧ (Y - c) % 4 ≠ 3))
    (g1 : x + 1 = b + 365 * (Y' - c) + (Y' - c) / 4 + R') (g2 : 0 ≤ R') (g3 : R' < S') (g4 : (S' = 366 ∧ (Y' - c) % 4 = 3) ∨ (S' = 365 ∧ (Y' - c) % 4 ≠ 3)) :
    (R + 1 < S ∧ Y' = Y ∧ R' = R + 1) ∨ (R + 1 = S ∧ Y' = Y + 1 ∧ R' = 0) := by
  obtain ⟨q, j, hq, hj⟩ : ∃ q j : Int, Y = c + 4 * q + j ∧ (j = 0 ∨ j = 1 ∨ j = 2 ∨ j = 3) := ⟨(Y - c) / 4, (Y - c) % 4, by omega, by omega⟩
  obtain ⟨q', j', hq', hj'⟩ : ∃ q j : Int, Y' = c + 4 * q + j ∧ (j = 0 ∨ j = 1 ∨ j = 2 ∨ j = 3) := ⟨(Y' - c) / 4, (Y' - c) % 4, by omega, by omega⟩
  have e1 : (Y - c) / 4 = q := by omega
  have e2 : (Y' - c) / 4 = q' := by omega
  have e3 : (Y - c) % 4 = j := by omega
  have e4 : (Y' - c) % 4 = j' := by omega
  rw [e1] at f1; rw [e2] at g1; rw [e3] at f4; rw [e4] at g4
  clear e1 e2 e3 e4
  have hk : q' = q ∨ q' = q + 1 := by omega
  rcases hj with rfl | rfl | rfl | rfl <;> rcases hk with rfl | rfl <;> omega
theorem cop_next (day : Int) : NextIs (copY day) (copM day) (copD day) (szs 1 (copS day)) (copY (day + 1)) (copM (day + 1)) (copD (day + 1)) := by
  obtain ⟨f1, f2, f3, f4⟩ := cop_year day
  obtain ⟨g1, g2, g3, g4⟩ := cop_year (day + 1)
  exact next_k1 f2 f3 (by omega) (cop_month day).1 (cop_month day).2 (cop_month (day + 1)).1 (cop_month (day + 1)).2 (step4 (b := 1824665) (c := 0) (S' := copS (day + 1)) (x := day) (by omega) f2 f3 (by omega) (by omega) g2 g3 (by omega))
theorem sar_next (day : Int) : NextIs (sarY day) (sarM day) (sarD day) (szs 1 (sarS day)) (sarY (day + 1)) (sarM (day + 1)) (sarD (day + 1)) := by
  obtain ⟨f1, f2, f3, f4⟩ := sar_year day
  obtain ⟨g1, g2, g3, g4⟩ := sar_year (day + 1)
  exact next_k1 f2 f3 (by omega) (sar_month day).1 (sar_month day).2 (sar_month (day + 1)).1 (sar_month (day + 1)).2 (step4 (b := 2117212) (c := 533) (S' := sarS (day + 1)) (x := day) (by omega) f2 f3 (by omega) (by omega) g2 g3 (by omega))
theorem arm_next (day : Int) : NextIs (armY day) (armM day) (armD day) (szs 1 (armS day)) (armY (day + 1)) (armM (day + 1)) (armD (day + 1)) := by
  obtain ⟨f1, f2, f3⟩ := arm_year day
  obtain ⟨g1, g2, g3⟩ := arm_year (day + 1)
  exact next_k1 (by omega) (by omega) (by omega) (arm_month day).1 (arm_month day).2 (arm_month (day + 1)).1 (arm_month (day + 1)).2 (by omega)
theorem isl_next (day : Int) : NextIs (islY day) (islM day) (islD day) (szs 0 (islS day)) (islY (day + 1)) (islM (day + 1)) (islD (day + 1)) := by
  obtain ⟨f0, f1, f2, f3, f4⟩ := isl_year day
  obtain ⟨g0, g1, g2, g3, g4⟩ := isl_year (day + 1)
  obtain ⟨a1, a2, a3, a4, a5, a6⟩ := isl_month day
  obtain ⟨c1, c2, c3, c4, c5, c6⟩ := isl_month (day + 1)
  have hl : ((szs 0 (islS day)).length : Int) = 12 := rfl
  unfold NextIs
  rw [a6, hl]
  clear a6 c6 hl
  generalize islY day = Y at *
  generalize islR day = R at *
  generalize islS day = S at *
  generalize islM day = M at *
  generalize islD day = D at *
  generalize islY (day + 1) = Y' at *
  generalize islR (day + 1) = R' at *
  generalize islS (day + 1) = S' at *
  generalize islM (day + 1) = M' at *
  generalize islD (day + 1) = D' at *
  have st : (R + 1 < S ∧ Y' = Y ∧ R' = R + 1) ∨ (R + 1 = S ∧ Y' = Y + 1 ∧ R' = 0) := by
    clear a1 a2 a3 a4 a5 c1 c2 c3 c4 c5
    have : Y' = Y ∨ Y' = Y + 1 := by omega
    clear f0 g0
    rcases this with rfl | rfl
    · omega
    · have h3 : (3 + 11 * (Y + 1)) / 30 = (11 * Y + 14) / 30 := by omega
      rw [h3] at g1
      omega
  have hS : S = 354 ∨ S = 355 := by omega
  clear f0 f1 f4 g0 g1 g4
  rcases st with ⟨a, b, c⟩ | ⟨a, b, c⟩
  · subst b; subst c
    have hm : M = 1 ∨ M = 2 ∨ M = 3 ∨ M = 4 ∨ M = 5 ∨ M = 6 ∨ M = 7 ∨ M = 8 ∨ M = 9 ∨ M = 10 ∨ M = 11 ∨ M = 12 := by omega
    have hn : M' = M ∨ M' = M + 1 := by omega
    rcases hm with rfl | rfl | rfl | rfl | rfl | rfl | rfl | rfl | rfl | rfl | rfl | rfl <;> rcases hn with hn | hn <;> subst hn <;> simp at a3 a4 a5 c3 c4 c5 ⊢ <;> omega
  · subst b; subst c
    have hm : M' = 1 := by omega
    have hm2 : M = 12 := by omega
    subst hm2
    rw [if_pos rfl]
    omega
/-- the state of the law's Gregorian count in a loop that takes spans off -/
def RomA (r0 y0 : Int) (pre : List Int) (rest year : Int) : Prop := rest = r0 - 36524 * min (pre.length : Int) (r0 / 36524) ∧ year = y0 + 100 * min (pre.length : Int) (r0 / 36524)
theorem romA_start {r0 y0 : Int} (h : 0 ≤ r0) : RomA r0 y0 [] r0 y0 := by
  unfold RomA
  simp only [List.length_nil]
  omega
theorem romA_yes {r0 y0 x rest year : Int} {pre : List Int} (h : RomA r0 y0 pre rest year) (hc : 36524 ≤ rest) : RomA r0 y0 (pre ++ [x]) (rest - 36524) (year + 100) := by
  unfold RomA at h ⊢
  simp only [List.length_append, List.length_cons, List.length_nil]
  omega
theorem romA_no {r0 y0 x rest year : Int} {pre : List Int} (h : RomA r0 y0 pre rest year) (hc : rest < 36524) : RomA r0 y0 (pre ++ [x]) rest year := by
  unfold RomA at h ⊢
  simp only [List.length_append, List.length_cons, List.length_nil]
  omega
/-- the state of the law's Gregorian count in a loop that takes spans off -/
def RomB (r0 y0 : Int) (pre : List Int) (rest year : Int) : Prop := rest = r0 - 1461 * min (pre.length : Int) (r0 / 1461) ∧ year = y0 + 4 * min (pre.length : Int) (r0 / 1461)
theorem romB_start {r0 y0 : Int} (h : 0 ≤ r0) : RomB r0 y0 [] r0 y0 := by
  unfold RomB
  simp only [List.length_nil]
  omega
theorem romB_yes {r0 y0 x rest year : Int} {pre : List Int} (h : RomB r0 y0 pre rest year) (hc : 1461 ≤ rest) : RomB r0 y0 (pre ++ [x]) (rest - 1461) (year + 4) := by
  unfold RomB at h ⊢
  simp only [List.length_append, List.length_cons, List.length_nil]
  omega
theorem romB_no {r0 y0 x rest year : Int} {pre : List Int} (h : RomB r0 y0 pre rest year) (hc : rest < 1461) : RomB r0 y0 (pre ++ [x]) rest year := by
  unfold RomB at h ⊢
  simp only [List.length_append, List.length_cons, List.length_nil]
  omega
theorem romB_start' {rr y0 rest year : Int} {pre : List Int} (h : RomA rr y0 pre rest year) (hl : pre.length = 3) (h0 : 0 ≤ rr) : RomB (rr - 36524 * min 3 (rr / 36524)) (y0 + 100 * min 3 (rr / 36524)) [] rest year := by
  unfold RomA at h
  rw [hl] at h
  obtain ⟨h1, h2⟩ := h
  subst h1; subst h2
  exact romB_start (by omega)
theorem romI_start {day L rr rest year : Int} {pre : List Int} (hL : (day - 1721426) / 146097 = L) (hr : (day - 1721426) % 146097 = rr) (h : RomB (rr - 36524 * min 3 (rr / 36524)) (400 * L + 1 + 100 * min 3 (rr / 36524)) pre rest year) (hl : pre.length = 24) :
    romY day - 3 ≤ year ∧ year ≤ romY day ∧ 0 ≤ rest ∧ RomInv day rest year := by
  have := rom_start hL hr rfl rfl
  unfold RomB at h
  rw [hl] at h
  obtain ⟨h1, h2⟩ := h
  subst h1; subst h2
  exact this
theorem isl_ml (day : Int) : (szs 0 (islS day)).getD (islM day - 1).toNat 0 = mli (islY day) (islM day) := by
  obtain ⟨_, _, _, _, f5⟩ := isl_year day
  obtain ⟨g1, g2, _, _, _, g6⟩ := isl_month day
  rw [g6]
  unfold mli
  split
  · split <;> omega
  · rfl
theorem k1_get {m S : Int} (h1 : 1 ≤ m) (h2 : m ≤ 13) : (szs 1 S).getD (m - 1).toNat 0 = (if m = 13 then S - 360 else 30) := by
  have hm : m = 1 ∨ m = 2 ∨ m = 3 ∨ m = 4 ∨ m = 5 ∨ m = 6 ∨ m = 7 ∨ m = 8 ∨ m = 9 ∨ m = 10 ∨ m = 11 ∨ m = 12 ∨ m = 13 := by omega
  rcases hm with rfl | rfl | rfl | rfl | rfl | rfl | rfl | rfl | rfl | rfl | rfl | rfl | rfl <;> rfl
theorem k1_sum {m S : Int} (h1 : 1 ≤ m) (h2 : m ≤ 13) : ((szs 1 S).take (m - 1).toNat).sum = 30 * (m - 1) := by
  have hm : m = 1 ∨ m = 2 ∨ m = 3 ∨ m = 4 ∨ m = 5 ∨ m = 6 ∨ m = 7 ∨ m = 8 ∨ m = 9 ∨ m = 10 ∨ m = 11 ∨ m = 12 ∨ m = 13 := by omega
  rcases hm with rfl | rfl | rfl | rfl | rfl | rfl | rfl | rfl | rfl | rfl | rfl | rfl | rfl <;> rfl
theorem cop_ml (day : Int) : (szs 1 (copS day)).getD (copM day - 1).toNat 0 = mlc (copY day) (copM day) := by
  obtain ⟨f1, f2, f3, f4⟩ := cop_year day
  obtain ⟨g1, g2⟩ := cop_month day
  rw [k1_get (by omega) (by omega)]
  unfold mlc
  split
  · split <;> omega
  · rfl
theorem sar_ml (day : Int) (h : 533 ≤ sarY day) : (szs 1 (sarS day)).getD (sarM day - 1).toNat 0 = mls (sarY day) (sarM day) := by
  obtain ⟨f1, f2, f3, f4⟩ := sar_year day
  obtain ⟨g1, g2⟩ := sar_month day
  rw [k1_get (by omega) (by omega)]
  unfold mls
  split
  · split <;> omega
  · rfl
theorem arm_ml (day : Int) : (szs 1 (armS day)).getD (armM day - 1).toNat 0 = mla (armM day) := by
  obtain ⟨f1, f2, f3⟩ := arm_year day
  obtain ⟨g1, g2⟩ := arm_month day
  rw [k1_get (by omega) (by omega), f3]
  unfold mla
  rfl
theorem cnt_arm (y m : Int) : ∃ q p S ml cs ms : Int, (y - 1) / 1 = q ∧ (y - 1) % 1 = p ∧ plain1.getD p.toNat 0 = S ∧ (szs 1 S).getD (m - 1).toNat 0 = ml ∧ (plain1.take p.toNat).sum = cs ∧ ((szs 1 S).take (m - 1).toNat).sum = ms ∧
    0 ≤ p ∧ p < 1 ∧ q = y - 1 ∧ cs = 0 ∧ (m < 1 ∨ 13 < m ∨ ml = mla m) ∧ (m < 1 ∨ 13 < m ∨ ms = 30 * (m - 1)) := by
  have e : (y - 1) % 1 = 0 := by omega
  refine ⟨_, _, _, _, _, _, rfl, rfl, rfl, rfl, rfl, rfl, by omega, by omega, by omega, ?_, ?_, ?_⟩
  · rw [e]; rfl
  · by_cases a : 1 ≤ m
    · by_cases b : m ≤ 13
      · refine .inr (.inr ?_)
        rw [e]
        have := k1_get (m := m) (S := 365) a b
        unfold mla
        exact this
      · exact .inr (.inl (by omega))
    · exact .inl (by omega)
  · by_cases a : 1 ≤ m
    · by_cases b : m ≤ 13
      · exact .inr (.inr (k1_sum a b))
      · exact .inr (.inl (by omega))
    · exact .inl (by omega)
theorem cnt_sar (y m : Int) : ∃ q p S ml cs ms : Int, (y - 533) / 4 = q ∧ (y - 533) % 4 = p ∧ fourth.getD p.toNat 0 = S ∧ (szs 1 S).getD (m - 1).toNat 0 = ml ∧ (fourth.take p.toNat).sum = cs ∧ ((szs 1 S).take (m - 1).toNat).sum = ms ∧
    0 ≤ p ∧ p < 4 ∧ y - 533 = 4 * q + p ∧ cs = 365 * p ∧ (y < 533 ∨ m < 1 ∨ 13 < m ∨ ml = mls y m) ∧ (m < 1 ∨ 13 < m ∨ ms = 30 * (m - 1)) ∧ S = (if y % 4 = 0 then 366 else 365) := by
  have hS : fourth.getD ((y - 533) % 4).toNat 0 = (if y % 4 = 0 then 366 else 365) ∧ (fourth.take ((y - 533) % 4).toNat).sum = 365 * ((y - 533) % 4) := by
    have : (y - 533) % 4 = 0 ∨ (y - 533) % 4 = 1 ∨ (y - 533) % 4 = 2 ∨ (y - 533) % 4 = 3 := by omega
    rcases this with h | h | h | h <;> rw [h] <;> refine ⟨?_, rfl⟩ <;> split <;> first | rfl | (exfalso; omega)
  refine ⟨_, _, _, _, _, _, rfl, rfl, rfl, rfl, rfl, rfl, by omega, by omega, by omega, hS.2, ?_, ?_, hS.1⟩
  · by_cases c : 533 ≤ y
    · by_cases a : 1 ≤ m
      · by_cases b : m ≤ 13
        · refine .inr (.inr (.inr ?_))
          rw [hS.1]
          rw [k1_get a b]
          unfold mls
          split
          · split <;> split <;> omega
          · rfl
        · exact .inr (.inr (.inl (by omega)))
      · exact .inr (.inl (by omega))
    · exact .inl (by omega)
  · by_cases a : 1 ≤ m
    · by_cases b : m ≤ 13
      · exact .inr (.inr (k1_sum a b))
      · exact .inr (.inl (by omega))
    · exact .inl (by omega)
theorem cnt_sar_S (y : Int) : ∃ p S : Int, (y - 533) % 4 = p ∧ fourth.getD p.toNat 0 = S ∧ ((S = 366 ∧ y % 4 = 0) ∨ (S = 365 ∧ y % 4 ≠ 0)) := by
  obtain ⟨q, p, S, ml, cs, ms, x1, x2, x3, x4, x5, x6, b1, b2, b3, b4, b5, b6, b7⟩ := cnt_sar y 1
  refine ⟨p, S, x2, x3, ?_⟩
  rw [b7]
  split <;> omega

end
section
open PySem PySem.W PyProof.Rows PySem.Spec PySem.Calls
open PySem.Float64 PySem.Flt
set_option maxRecDepth 100000

/-- an equation kept from omega's sight -/
structure Hint (a b : Int) : Prop where
  eq : a = b
theorem fits_of {n : Int} (h : n.natAbs < 2 ^ 70) : ¬ Float64.isInf (Float64.ofInt n) = true :=
  Float64.ofInt_fits (Nat.lt_trans h (Nat.pow_lt_pow_right (by decide) (by decide)))

section
variable {prog : Program} {w : World} {A : Around} {E : Value → Shared → Prop} {s : Shared} {Q : Value → Shared → Prop} {x y : UInt64} {n k b : Int} {t u : Tok}

theorem w_add_fi (hx : x = H n) (h1 : n.natAbs < 4503599627370496) (h2 : b.natAbs < 2251799813685248) {r : Int} (e : n + 2 * b = r) (h : Q (.float (H r) s.toks) { s with toks := s.toks + 1 }) :
    wpAny (model prog w) A (binaryOp .Add (.float x t) (.int b u)) Q E s := by
  subst e
  subst hx
  have e' := ofInt_H (n := b) (by omega)
  exact AutoFloatOps.add_fi_1 (fits_of (by omega)) (by rw [e', add_H (by omega) (by omega) (by omega)]; exact h)
theorem w_add_if (hx : x = H n) (h1 : n.natAbs < 4503599627370496) (h2 : b.natAbs < 2251799813685248) {r : Int} (e : 2 * b + n = r) (h : Q (.float (H r) s.toks) { s with toks := s.toks + 1 }) :
    wpAny (model prog w) A (binaryOp .Add (.int b u) (.float x t)) Q E s := by
  subst e
  subst hx
  have e' := ofInt_H (n := b) (by omega)
  exact AutoFloatOps.add_if_1 (fits_of (by omega)) (by rw [e', add_H (by omega) (by omega) (by omega)]; exact h)
theorem w_sub_fi (hx : x = H n) (h1 : n.natAbs < 4503599627370496) (h2 : b.natAbs < 2251799813685248) {r : Int} (e : n - 2 * b = r) (h : Q (.float (H r) s.toks) { s with toks := s.toks + 1 }) :
    wpAny (model prog w) A (binaryOp .Sub (.float x t) (.int b u)) Q E s := by
  subst e
  subst hx
  have e' := ofInt_H (n := b) (by omega)
  exact AutoFloatOps.sub_fi_1 (fits_of (by omega)) (by rw [e', sub_H (by omega) (by omega) (by omega)]; exact h)
theorem w_sub_if (hx : x = H n) (h1 : n.natAbs < 4503599627370496) (h2 : b.natAbs < 2251799813685248) {r : Int} (e : 2 * b - n = r) (h : Q (.float (H r) s.toks) { s with toks := s.toks + 1 }) :
    wpAny (model prog w) A (binaryOp .Sub (.int b u) (.float x t)) Q E s := by
  subst e
  subst hx
  have e' := ofInt_H (n := b) (by omega)
  exact AutoFloatOps.sub_if_1 (fits_of (by omega)) (by rw [e', sub_H (by omega) (by omega) (by omega)]; exact h)
theorem w_sub_i122 (h2 : b.natAbs < 2251799813685248) (h : Q (.float (Float64.sub (Float64.ofInt b) L122) s.toks) { s with toks := s.toks + 1 }) :
    wpAny (model prog w) A (binaryOp .Sub (.int b u) (.float 4638292440600962662 t)) Q E s := AutoFloatOps.sub_if_1 (fits_of (by omega)) h
theorem w_sub_ff (hx : x = H n) (hy : y = H k) (h1 : n.natAbs < 4503599627370496) (h2 : k.natAbs < 4503599627370496) {r : Int} (e : n - k = r) (h : Q (.float (H r) s.toks) { s with toks := s.toks + 1 }) :
    wpAny (model prog w) A (binaryOp .Sub (.float x t) (.float y u)) Q E s := by
  subst e
  subst hx; subst hy
  exact AutoFloatOps.sub_0 (by rw [sub_H (by omega) (by omega) (by omega)]; exact h)
theorem w_iadd_ff (hx : x = H n) (hy : y = H k) (h1 : n.natAbs < 4503599627370496) (h2 : k.natAbs < 4503599627370496) {r : Int} (e : n + k = r) (h : Q (.float (H r) s.toks) { s with toks := s.toks + 1 }) :
    wpAny (model prog w) A (inplaceOp .Add (.float x t) (.float y u)) Q E s := by
  subst e
  subst hx; subst hy
  exact AutoFloatOps.iadd_0 (by rw [add_H (by omega) (by omega) (by omega)]; exact h)
theorem w_add_raw (h2 : b.natAbs < 2251799813685248) (h : Q (.float (Float64.add x (Float64.ofInt b)) s.toks) { s with toks := s.toks + 1 }) :
    wpAny (model prog w) A (binaryOp .Add (.float x t) (.int b u)) Q E s := AutoFloatOps.add_fi_1 (fits_of (by omega)) h
theorem w_mul_fi (hx : x = H n) (hb0 : 0 < b) (h1 : n.natAbs < 4503599627370496) (h2 : b.natAbs < 2251799813685248) (h3 : (b * n).natAbs < 4503599627370496) {r : Int} (e : b * n = r) (h : Q (.float (H r) s.toks) { s with toks := s.toks + 1 }) :
    wpAny (model prog w) A (binaryOp .Mult (.float x t) (.int b u)) Q E s := by
  subst e
  subst hx
  exact AutoFloatOps.mul_fi_1 (fits_of (by omega)) (by rw [mul_HI' hb0 (by omega) (by omega) (by omega)]; exact h)
theorem w_mul_fi' (hx : x = H n) (hb0 : 0 < n) (h1 : n.natAbs < 4503599627370496) (h2 : b.natAbs < 2251799813685248) (h3 : (n * b).natAbs < 4503599627370496) {r : Int} (e : n * b = r) (h : Q (.float (H r) s.toks) { s with toks := s.toks + 1 }) :
    wpAny (model prog w) A (binaryOp .Mult (.float x t) (.int b u)) Q E s := by
  subst e
  subst hx
  exact AutoFloatOps.mul_fi_1 (fits_of (by omega)) (by rw [mul_HI hb0 (by omega) (by omega) (by omega)]; exact h)
theorem w_mul_if (hx : x = H n) (hb0 : 0 < b) (h1 : n.natAbs < 4503599627370496) (h2 : b.natAbs < 2251799813685248) (h3 : (b * n).natAbs < 4503599627370496) {r : Int} (e : b * n = r) (h : Q (.float (H r) s.toks) { s with toks := s.toks + 1 }) :
    wpAny (model prog w) A (binaryOp .Mult (.int b u) (.float x t)) Q E s := by
  subst e
  subst hx
  exact AutoFloatOps.mul_if_1 (fits_of (by omega)) (by rw [mul_IH hb0 (by omega) (by omega) (by omega)]; exact h)
theorem w_mul_raw (h2 : b.natAbs < 2251799813685248) (h : Q (.float (Float64.mul x (Float64.ofInt b)) s.toks) { s with toks := s.toks + 1 }) :
    wpAny (model prog w) A (binaryOp .Mult (.float x t) (.int b u)) Q E s := AutoFloatOps.mul_fi_1 (fits_of (by omega)) h
theorem w_div_fi (hb0 : 0 < b) (h2 : b.natAbs < 2251799813685248) (h : Q (.float (Float64.div x (Float64.ofInt b)) s.toks) { s with toks := s.toks + 1 }) :
    wpAny (model prog w) A (binaryOp .Div (.float x t) (.int b u)) Q E s :=
  AutoFloatOps.truediv_fi_2 (fits_of (by omega)) (fun q => by have := (isZero_ofInt b).mp q; omega) h
theorem w_div_ff (hz : Float64.isZero y = false) (h : Q (.float (Float64.div x y) s.toks) { s with toks := s.toks + 1 }) :
    wpAny (model prog w) A (binaryOp .Div (.float x t) (.float y u)) Q E s := AutoFloatOps.truediv_1 (by rw [hz]; decide) h
theorem w_div_if (hz : Float64.isZero y = false) (h2 : b.natAbs < 2251799813685248) (h : Q (.float (Float64.div (Float64.ofInt b) y) s.toks) { s with toks := s.toks + 1 }) :
    wpAny (model prog w) A (binaryOp .Div (.int b t) (.float y u)) Q E s := AutoFloatOps.truediv_if_2 (fits_of (by omega)) (by rw [hz]; decide) h
theorem w_div_ii (hb0 : 0 < b) (h1 : n.natAbs < 4503599627370496) (h : Q (.float (Float64.ofFrac (decide (n < 0) != decide (b < 0)) n.natAbs b.natAbs) s.toks) { s with toks := s.toks + 1 }) :
    wpAny (model prog w) A (binaryOp .Div (.int n t) (.int b u)) Q E s :=
  AutoIntOps.truediv_2 (by simp; omega) (quot_fits (by omega) (Nat.lt_trans h1 (Nat.lt_trans (show 4503599627370496 < 2 ^ 53 by decide) (Nat.pow_lt_pow_right (by decide) (by decide))))) h
theorem w_div_i2 (h1 : n.natAbs < 4503599627370496) (h : Q (.float (H n) s.toks) { s with toks := s.toks + 1 }) :
    wpAny (model prog w) A (binaryOp .Div (.int n t) (.int 2 u)) Q E s := w_div_ii (by decide) h1 (by rw [frac_H]; exact h)
theorem w_mod_fi (hx : x = H n) (hb0 : 0 < b) (h1 : n.natAbs < 4503599627370496) (h2 : b < 1125899906842624) {r : Int} (e : n % (2 * b) = r) (h : Q (.float (H r) s.toks) { s with toks := s.toks + 1 }) :
    wpAny (model prog w) A (binaryOp .Mod (.float x t) (.int b u)) Q E s := by
  subst e
  subst hx
  exact AutoFloatOps.mod_fi_2 (fits_of (by omega)) (fun q => by have := (isZero_ofInt b).mp q; omega) (by rw [mod_H (by omega) hb0 (by omega)]; exact h)
theorem w_lt_fi (hx : x = H n) (h1 : n.natAbs < 4503599627370496) (h : Q (.bool (decide (n < 2 * b))) s) :
    wpAny (model prog w) A (compareOp .Lt (.float x t) (.int b u)) Q E s := by
  subst hx
  exact lt_fi (by rw [cmpInt_H (by omega), lt_bool_of]; exact h)
theorem w_eq_fi (hx : x = H n) (h1 : n.natAbs < 4503599627370496) (h : Q (.bool (decide (n = 2 * b))) s) :
    wpAny (model prog w) A (compareOp .Eq (.float x t) (.int b u)) Q E s := by
  subst hx
  exact eq_fi (by rw [cmpInt_H (by omega), eq_bool_of]; exact h)
theorem w_eq_ff (hx : x = H n) (hy : y = H k) (h1 : n.natAbs < 4503599627370496) (h2 : k.natAbs < 4503599627370496) (h : Q (.bool (decide (n = k))) s) :
    wpAny (model prog w) A (compareOp .Eq (.float x t) (.float y u)) Q E s := by
  subst hx; subst hy
  exact AutoFloatOps.eq_0 (by rw [cmp_H (by omega) (by omega), eq_bool_of]; exact h)
theorem w_ne_ff (hx : x = H n) (hy : y = H k) (h1 : n.natAbs < 4503599627370496) (h2 : k.natAbs < 4503599627370496) (h : Q (.bool (!decide (n = k))) s) :
    wpAny (model prog w) A (compareOp .NotEq (.float x t) (.float y u)) Q E s := by
  subst hx; subst hy
  exact AutoFloatOps.ne_0 (by rw [bne, cmp_H (by omega) (by omega), eq_bool_of]; exact h)

theorem fin_of {s : Bool} {m : Nat} {e : Int} (h : decode x = .fin s m e) : Float64.isNaN x = false ∧ Float64.isInf x = false := by
  unfold Float64.isNaN Float64.isInf
  rw [h]
  exact ⟨rfl, rfl⟩
theorem w_add_ii {a : Int} {r : Int} (e : a + b = r) (h : Q (.int r s.toks) { s with toks := s.toks + 1 }) : wpAny (model prog w) A (binaryOp .Add (.int a t) (.int b u)) Q E s := by
  subst e
  exact AutoIntOps.add_0 h
theorem w_iadd_ii {a : Int} {r : Int} (e : a + b = r) (h : Q (.int r s.toks) { s with toks := s.toks + 1 }) : wpAny (model prog w) A (inplaceOp .Add (.int a t) (.int b u)) Q E s := by
  subst e
  exact AutoIntOps.iadd_0 h
theorem w_floor (hx : Fl x k) {r : Int} (e : k = r) (h : Q (.int r s.toks) { s with toks := s.toks + 1 }) : wpAny (model prog w) A (call (.builtin "math.floor") [.float x t]) Q E s := by
  subst e
  obtain ⟨sg, m, e, hd, rfl⟩ := hx
  exact call_fn_gives kind_floor plain_floor entry_floor (args_floor _) (gives_mfloor t hd) h
theorem w_ceil (hx : Ce x k) {r : Int} (e : k = r) (h : Q (.int r s.toks) { s with toks := s.toks + 1 }) : wpAny (model prog w) A (call (.builtin "math.ceil") [.float x t]) Q E s := by
  subst e
  obtain ⟨sg, m, e, hd, rfl⟩ := hx
  exact call_fn_gives kind_ceil plain_ceil entry_ceil (args_ceil _) (gives_mceil t hd) h
theorem w_trunc (hx : Tr x k) {r : Int} (e : k = r) (h : Q (.int r s.toks) { s with toks := s.toks + 1 }) : wpAny (model prog w) A (call (.builtin "math.trunc") [.float x t]) Q E s := by
  subst e
  obtain ⟨sg, m, e, hd, rfl⟩ := hx
  refine trunc_via ?_
  exact call_gives F.slot_float_trunc (AutoFloatOps.typeIs_float s x t) F.entry_float_trunc (F.args_float_trunc_1 _) (gives_trunc t hd) h
theorem w_int (hx : Tr x k) {r : Int} (e : k = r) (h : Q (.int r s.toks) { s with toks := s.toks + 1 }) : wpAny (model prog w) A (call (.type "int") [.float x t]) Q E s := by
  subst e
  obtain ⟨sg, m, e, hd, rfl⟩ := hx
  exact call_int_float hd h
end

end
section
open PySem PySem.W PyProof.Rows PySem.Spec PySem.Calls

/-- a claim about a call of the def at `f` -/
abbrev Claim (f : Addr) (vs : List Value) (up : Nat) (Ret : Heap → Addr → (Str → Option Value) → List (Addr × Obj) → Shared → (Value → Shared → Prop) → (Value → Shared → Prop) → Prop) : Prop :=
  ∀ (prog : Program) (w : World) (p : Program) (loose : List Str) (mean : ExcName → Option Value) (mg mb : Str → Option Value)
    (dp un : Nat) (gd : Option (List Code)) (cn : Str) (cs : Scope) (a : Addr) (ccd : Value) (cl : List (Str × Addr)) (outer : List Env) (A₀ : Around) (base h₀ : Heap) (L : Addr) (m : Str → Option Value) (news : List (Addr × Obj)) (s : Shared) (Q E : Value → Shared → Prop),
    Below A₀ base outer h₀ → Fr h₀ L s.heap m → (hd.heap_39 w.params).In h₀ → News h₀ L s.heap news → Top p loose mean mg mb h₀ → cs.kind = .function →
    dp + up < recursionLimit → un + 8 * up < cLine → Ret h₀ L m news s Q E →
      wpAny (model prog w) (ktrTop dp un gd cn cs L a ccd cl outer) (call (.ref f) vs) Q E s

/-- a plain value comes back -/
abbrev RetV (R : Tok → Value) : Heap → Addr → (Str → Option Value) → List (Addr × Obj) → Shared → (Value → Shared → Prop) → (Value → Shared → Prop) → Prop :=
  fun h₀ L m news s Q _ => ∀ (t : Tok) (h' : Heap) (tk' : Nat), Fr h₀ L h' m → News h₀ L h' news → Q (R t) { s with heap := h', toks := tk' }

theorem init : (fun (_ : OpenLaw) (_ : Params → Frag) => True) PySem.Challenge.rw_ad5034_01 hd.heap_39 := by
  k_fill
  trivial


end
section
open PySem PySem.W PyProof.Rows PySem.Spec PySem.Calls

theorem use {f : Addr} {vs : List Value} {up : Nat} {Ret : Heap → Addr → (Str → Option Value) → List (Addr × Obj) → Shared → (Value → Shared → Prop) → (Value → Shared → Prop) → Prop} (C : Claim f vs up Ret)
    {prog : Program} {w : World} {p : Program} {loose : List Str} {mean : ExcName → Option Value} {mg mb : Str → Option Value}
    {dp un : Nat} {gd : Option (List Code)} {cn : Str} {cs : Scope} {a : Addr} {ccd : Value} {cl : List (Str × Addr)} {outer : List Env} {A₀ : Around} {base h₀ : Heap} {L : Addr} {m : Str → Option Value} {news : List (Addr × Obj)} {s : Shared} {Q E : Value → Shared → Prop}
    (B : Below A₀ base outer h₀) (F : Fr h₀ L s.heap m) (X : (hd.heap_39 w.params).In h₀) (N : News h₀ L s.heap news) (T : Top p loose mean mg mb h₀) (hk : cs.kind = .function)
    (hd : dp + up < recursionLimit) (hu : un + 8 * up < cLine) (ret : Ret h₀ L m news s Q E) :
    wpAny (model prog w) (ktrTop dp un gd cn cs L a ccd cl outer) (call (.ref f) vs) Q E s := C prog w p loose mean mg mb dp un gd cn cs a ccd cl outer A₀ base h₀ L m news s Q E B F X N T hk hd hu ret

section
variable {prog : Program} {w : World} {A : Around} {E : Value → Shared → Prop} {s : Shared} {h₀ : Heap} {L a : Addr} {m : Str → Option Value} {K : Frag} {Q : Value → Shared → Prop}
theorem w_in_30 {l : List Value} {dd : Option Addr} {sl : Array (Option Value)} {n : Nat} {x : Int} {u : Tok} (F : Fr h₀ L s.heap m) (X₀ : K.In h₀) (hl : K.lookup a = some ⟨.type "tuple", dd, .seq l.toArray n, sl⟩) (hi : IntsAre l [4, 6, 9, 11])
    (h : Q (.bool (decide (x = 4 ∨ x = 6 ∨ x = 9 ∨ x = 11))) s) : wpAny (model prog w) A (compareOp .In (.int x u) (.ref a)) Q E s :=
  in_tuple_ints (tupK (X₀.keeps F.keep) hl) hi (by
    have e : ([4, 6, 9, 11] : List Int).any (· == x) = decide (x = 4 ∨ x = 6 ∨ x = 9 ∨ x = 11) := by
      rw [Bool.eq_iff_iff]; simp; omega
    rw [e]; exact h)
theorem w_in_odd {l : List Value} {dd : Option Addr} {sl : Array (Option Value)} {n : Nat} {x : Int} {u : Tok} (F : Fr h₀ L s.heap m) (X₀ : K.In h₀) (hl : K.lookup a = some ⟨.type "tuple", dd, .seq l.toArray n, sl⟩) (hi : IntsAre l [1, 3, 5, 7, 9, 11])
    (h : Q (.bool (decide (x = 1 ∨ x = 3 ∨ x = 5 ∨ x = 7 ∨ x = 9 ∨ x = 11))) s) : wpAny (model prog w) A (compareOp .In (.int x u) (.ref a)) Q E s :=
  in_tuple_ints (tupK (X₀.keeps F.keep) hl) hi (by
    have e : ([1, 3, 5, 7, 9, 11] : List Int).any (· == x) = decide (x = 1 ∨ x = 3 ∨ x = 5 ∨ x = 7 ∨ x = 9 ∨ x = 11) := by
      rw [Bool.eq_iff_iff]; simp; omega
    rw [e]; exact h)
end
theorem ret_F {h₀ h' : Heap} {L : Addr} {m : Str → Option Value} {news : List (Addr × Obj)} {s : Shared} {Q : Value → Shared → Prop} {t : Tok} {tk' : Nat} {n k : Int}
    (hret : ∀ (t : Tok) (h' : Heap) (tk' : Nat), Fr h₀ L h' m → News h₀ L h' news → Q (.float (H n) t) { s with heap := h', toks := tk' }) (e : k = n) (F : Fr h₀ L h' m) (N : News h₀ L h' news) : Q (.float (H k) t) { s with heap := h', toks := tk' } := by
  subst e
  exact hret t h' tk' F N
abbrev tup3 (a : Int) (t : Tok) (b : Int) (u : Tok) (c : Int) (v : Tok) : Obj := { cls := .type "tuple", data := .seq #[.int a t, .int b u, .int c v] }
abbrev RetT3 (a b c : Int) : Heap → Addr → (Str → Option Value) → List (Addr × Obj) → Shared → (Value → Shared → Prop) → (Value → Shared → Prop) → Prop :=
  fun h₀ L m news s Q _ => ∀ (D : Addr) (t u v : Tok) (h' : Heap) (tk' : Nat), Fr h₀ L h' m → News h₀ L h' ((D, tup3 a t b u c v) :: news) → Q (.ref D) { s with heap := h', toks := tk' }
theorem ret_T3 {h₀ h' : Heap} {L D : Addr} {m : Str → Option Value} {news news' : List (Addr × Obj)} {s : Shared} {Q E : Value → Shared → Prop} {t u v : Tok} {tk' : Nat} {a b c a' b' c' : Int}
    (hret : RetT3 a b c h₀ L m news s Q E) (e1 : a' = a) (e2 : b' = b) (e3 : c' = c) (F : Fr h₀ L h' m) (NM : News h₀ L h' news' ∧ (D, tup3 a' t b' u c' v) ∈ news') (hs : ∀ p ∈ news, p ∈ news') : Q (.ref D) { s with heap := h', toks := tk' } := by
  subst e1; subst e2; subst e3
  exact hret D t u v h' tk' F fun p hp => by
    rcases List.mem_cons.mp hp with rfl | hp
    · exact NM.1 _ NM.2
    · exact NM.1 p (hs p hp)
theorem w_div_29 {prog : Program} {w : World} {A : Around} {E : Value → Shared → Prop} {s : Shared} {Q : Value → Shared → Prop} {x : UInt64} {t u : Tok} (h : Q (.float (Float64.div x (H 59)) s.toks) { s with toks := s.toks + 1 }) :
    wpAny (model prog w) A (binaryOp .Div (.float x t) (.float 4628996729495093248 u)) Q E s := w_div_ff (by decide +kernel) (by rw [lit_29h]; exact h)
theorem w_add_ib {prog : Program} {w : World} {A : Around} {E : Value → Shared → Prop} {s : Shared} {Q : Value → Shared → Prop} {a r : Int} {b : Bool} {t : Tok} (e : a + (if b = true then 1 else 0) = r) (h : Q (.int r s.toks) { s with toks := s.toks + 1 }) :
    wpAny (model prog w) A (binaryOp .Add (.int a t) (.bool b)) Q E s := by
  subst e
  exact add_int_bool h

end
section
open PySem PySem.W PyProof.Rows PySem.Spec PySem.Calls

/-- the name that the next if settles, and what it holds behind it -/
structure JoinAt (line : Nat) (x : Str) (v : Int) : Prop where
def JoinEnd (x : Str) (v : Int) (h₀ : Heap) (L : Addr) (m : Str → Option Value) (news : List (Addr × Obj)) (s : Shared) (fl : Flow) (s' : Shared) : Prop :=
  ∃ (k : Int) (t : Tok) (h' : Heap) (tk' : Nat) (m' : Str → Option Value), fl = .next ∧ s' = { s with heap := h', toks := tk' } ∧ Fr h₀ L h' m' ∧ News h₀ L h' news ∧ (∀ y, m' y = if y = x then some (.int k t) else m y) ∧ k = v
section
variable {M : Model} {A : Around} {E : Value → Shared → Prop} {s : Shared} {env : Env} {h₀ : Heap} {L : Addr} {m : Str → Option Value} {news : List (Addr × Obj)} {x : Str} {v : Int} {Q : Flow → Shared → Prop}
theorem join_if {te : Expr} {bo oe : List Stmt} {l c el ec : Nat} (_hj : JoinAt l x v) (_F : Fr h₀ L s.heap m) (_N : News h₀ L s.heap news) (hc : wpAny M A (exec (.If te bo oe ⟨l, c, el, ec⟩) env) (JoinEnd x v h₀ L m news s) E s)
    (h : ∀ t h' tk', Fr h₀ L h' (fun y => if y = x then some (.int v t) else m y) → News h₀ L h' news → Q .next { s with heap := h', toks := tk' }) : wpAny M A (exec (.If te bo oe ⟨l, c, el, ec⟩) env) Q E s := by
  refine wpAny_mono hc (fun fl s' q => ?_) fun _ _ y => y
  obtain ⟨k, t, h', tk', m', rfl, rfl, F', N', e, rfl⟩ := q
  have em : m' = fun y => if y = x then some (.int k t) else m y := funext e
  rw [em] at F'
  exact h t h' tk' F' N'
theorem join_end {k : Int} {t : Tok} {h' : Heap} {tk' : Nat} {m' : Str → Option Value} (F : Fr h₀ L h' m') (N : News h₀ L h' news) (e : ∀ y, m' y = if y = x then some (.int k t) else m y) (hk : k = v) : JoinEnd x v h₀ L m news s .next { s with heap := h', toks := tk' } :=
  ⟨k, t, h', tk', m', rfl, rfl, F, N, e, hk⟩
theorem join_same {k : Int} {t : Tok} (h : m x = some (.int k t)) : ∀ y, m y = if y = x then some (.int k t) else m y := fun y => by
  by_cases e : y = x
  · rw [if_pos e, e, h]
  · rw [if_neg e]
end
section
variable {prog : Program} {w : World} {A : Around} {E : Value → Shared → Prop} {s : Shared} {h₀ : Heap} {L a : Addr} {m : Str → Option Value} {K : Frag} {news : List (Addr × Obj)} {value slice : Expr} {ns : List Int} {k : Int} {u : Tok} {Q : Value → Shared → Prop}
theorem w_item_K {l : List Value} {dd : Option Addr} {sl : Array (Option Value)} {n : Nat} (F : Fr h₀ L s.heap m) (X₀ : K.In h₀) (hl : K.lookup a = some ⟨.type "tuple", dd, .seq l.toArray n, sl⟩) (hi : IntsAre l ns)
    (h0 : 0 ≤ k) {N : Int} (hN : (ns.length : Int) = N) (hN2 : N ≤ 1000) (h1 : k < N) (h : ∀ t, Q (.int (ns.getD k.toNat 0) t) s)
    (hs : subscripted slice false (.ref a) (.int k u) = operate [.ref a, .int k u] (getItem (.ref a) (.int k u)) := by with_unfolding_all rfl) (hg : ∀ r, letTemporaryGo value (.ref a) r = pure () := by intro _; with_unfolding_all rfl) :
    wpAny (model prog w) A (subscriptTail value slice (.ref a) (.int k u)) Q E s :=
  item_tuple_ints (tupK (X₀.keeps F.keep) hl) hi h0 (by omega) (by omega) h hs hg
theorem w_item_L {vs : List Value} {n : Nat} (N : News h₀ L s.heap news) (hm : (a, listOf vs.toArray n) ∈ news) (hi : IntsAre vs ns) (h0 : 0 ≤ k) (h1 : k < ns.length) (hfit : k < 2 ^ 63) (h : ∀ t, Q (.int (ns.getD k.toNat 0) t) s)
    (hs : subscripted slice false (.ref a) (.int k u) = operate [.ref a, .int k u] (getItem (.ref a) (.int k u)) := by with_unfolding_all rfl) (hg : ∀ r, letTemporaryGo value (.ref a) r = pure () := by intro _; with_unfolding_all rfl) :
    wpAny (model prog w) A (subscriptTail value slice (.ref a) (.int k u)) Q E s :=
  item_list_ints (N.isList hm) hi h0 h1 hfit h hs hg
end
abbrev tup2 (a : Int) (t : Tok) (b : Int) (u : Tok) : Obj := { cls := .type "tuple", data := .seq #[.int a t, .int b u] }
abbrev RetT2 (a b : Int) : Heap → Addr → (Str → Option Value) → List (Addr × Obj) → Shared → (Value → Shared → Prop) → (Value → Shared → Prop) → Prop :=
  fun h₀ L m news s Q _ => ∀ (D : Addr) (t u : Tok) (h' : Heap) (tk' : Nat), Fr h₀ L h' m → News h₀ L h' ((D, tup2 a t b u) :: news) → Q (.ref D) { s with heap := h', toks := tk' }
theorem ret_T2 {h₀ h' : Heap} {L D : Addr} {m : Str → Option Value} {news news' : List (Addr × Obj)} {s : Shared} {Q E : Value → Shared → Prop} {t u : Tok} {tk' : Nat} {a b a' b' : Int}
    (hret : RetT2 a b h₀ L m news s Q E) (e1 : a' = a) (e2 : b' = b) (F : Fr h₀ L h' m) (NM : News h₀ L h' news' ∧ (D, tup2 a' t b' u) ∈ news') (hs : ∀ p ∈ news, p ∈ news') : Q (.ref D) { s with heap := h', toks := tk' } := by
  subst e1; subst e2
  exact hret D t u h' tk' F fun p hp => by
    rcases List.mem_cons.mp hp with rfl | hp
    · exact NM.1 _ NM.2
    · exact NM.1 p (hs p hp)

end
section
open PySem PySem.W PyProof.Rows PySem.Spec PySem.Calls PyProof.V

section
variable {prog : Program} {w : World} {A : Around} {E : Value → Shared → Prop} {s : Shared} {h₀ : Heap} {L a : Addr} {m : Str → Option Value} {K : Frag} {news : List (Addr × Obj)} {ns : List Int} {Q : Value → Shared → Prop}
theorem w_len_L {vs : List Value} {n : Nat} (N : News h₀ L s.heap news) (hm : (a, listOf vs.toArray n) ∈ news) (hi : IntsAre vs ns) (hf : (ns.length : Int) ≤ 1000) (h : ∀ t tk, Q (.int ns.length t) { s with toks := tk }) :
    wpAny (model prog w) A (call (.builtin "len") [.ref a]) Q E s := by
  have z : vs.toArray.size = ns.length := by rw [List.size_toArray, hi.length]
  refine PyProof.Rows.len_list (N.isList hm) (by rw [z]; omega) ?_
  rw [z]
  exact h _ _
theorem w_len_K {l : List Value} {dd : Option Addr} {sl : Array (Option Value)} {n : Nat} (F : Fr h₀ L s.heap m) (X₀ : K.In h₀) (hl : K.lookup a = some ⟨.type "tuple", dd, .seq l.toArray n, sl⟩) (hi : IntsAre l ns) {k : Int} (hk : (ns.length : Int) = k) (hf : k ≤ 1000)
    (h : ∀ t tk, Q (.int k t) { s with toks := tk }) : wpAny (model prog w) A (call (.builtin "len") [.ref a]) Q E s := by
  have z : l.toArray.size = ns.length := by rw [List.size_toArray, hi.length]
  refine PyProof.Rows.len_tuple (tupK (X₀.keeps F.keep) hl) (by rw [z]; omega) ?_
  rw [z, hk]
  exact h _ _
theorem w_sum_tup {l : List Value} (F : Fr h₀ L s.heap m) (N : News h₀ L s.heap news) (hh : A.handled = none) (ht : s.heap.IsTuple a l.toArray) (hi : IntsAre l ns) {k : Int} (hk : ns.sum = k)
    (h : ∀ h' tk t', Fr h₀ L h' m → News h₀ L h' news → Q (.int k t') { s with heap := h', toks := tk }) : wpAny (model prog w) A (call (.builtin "sum") [.ref a]) Q E s := by
  obtain ⟨xs, hx⟩ := hi.allInts.items
  have hn : numsOf l.toArray.toList = ns := by rw [show l.toArray.toList = l from rfl, hi.numsOf]
  rw [hx] at ht hn
  rw [nums_intItems] at hn
  refine ktm_sumG hh ht fun h' tk t' hk' => ?_
  have := h h' tk t' (F.keeps hk') (N.grown hk')
  rw [preSum_eq, List.take_of_length_le (by simp), hn, hk]
  exact this
theorem w_sum_K {l : List Value} {dd : Option Addr} {sl : Array (Option Value)} {n : Nat} (F : Fr h₀ L s.heap m) (N : News h₀ L s.heap news) (hh : A.handled = none) (X₀ : K.In h₀) (hl : K.lookup a = some ⟨.type "tuple", dd, .seq l.toArray n, sl⟩) (hi : IntsAre l ns) {k : Int} (hk : ns.sum = k)
    (h : ∀ h' tk t', Fr h₀ L h' m → News h₀ L h' news → Q (.int k t') { s with heap := h', toks := tk }) : wpAny (model prog w) A (call (.builtin "sum") [.ref a]) Q E s :=
  w_sum_tup F N hh ⟨_, (X₀.keeps F.keep) _ _ hl, rfl, n, rfl⟩ hi hk h
/-- a tuple of the ledger whose ints are known -/
abbrev tupI (l : List Value) : Obj := { cls := .type "tuple", data := .seq l.toArray }
theorem w_sum_T {l : List Value} (F : Fr h₀ L s.heap m) (N : News h₀ L s.heap news) (hh : A.handled = none) (hm : (a, tupI l) ∈ news) (hi : IntsAre l ns)
    (h : ∀ h' tk t', Fr h₀ L h' m → News h₀ L h' news → Q (.int ns.sum t') { s with heap := h', toks := tk }) : wpAny (model prog w) A (call (.builtin "sum") [.ref a]) Q E s :=
  w_sum_tup F N hh ⟨_, (N _ hm).1, rfl, 0, rfl⟩ hi rfl h
theorem w_sum_L {l : List Value} {n : Nat} (F : Fr h₀ L s.heap m) (N : News h₀ L s.heap news) (hh : A.handled = none) (hm : (a, listOf l.toArray n) ∈ news) (hi : IntsAre l ns)
    (h : ∀ h' tk t', Fr h₀ L h' m → News h₀ L h' news → Q (.int ns.sum t') { s with heap := h', toks := tk }) : wpAny (model prog w) A (call (.builtin "sum") [.ref a]) Q E s := by
  have ht := N.isList hm
  obtain ⟨xs, hx⟩ := hi.allInts.items
  have hn : numsOf l.toArray.toList = ns := by rw [show l.toArray.toList = l from rfl, hi.numsOf]
  rw [hx] at ht hn
  rw [nums_intItems] at hn
  refine sum_intListG hh ht fun h' tk t' hk' => ?_
  have := h h' tk t' (F.keeps hk') (N.grown hk')
  rw [preSum_eq, List.take_of_length_le (by simp), hn]
  exact this
end

section
variable {prog : Program} {w : World} {A : Around} {E : Value → Shared → Prop} {s : Shared}
theorem adjust_to (b n : Nat) (hb : b ≤ n) : Builtin.Slice.sliceAdjust none (some (b : Int)) 1 (n : Int) = (0, (b : Int)) := by
  unfold Builtin.Slice.sliceAdjust
  have h1 : ¬ ((1 : Int) < 0) := by omega
  have h2 : ¬ ((b : Int) < 0) := by omega
  simp only [h1, h2, if_false]
  congr 1
  omega
theorem applied_to {sl : Addr} {b n : Nat} {u : Tok} {Q : Int × Int × Nat → Shared → Prop} (hs : s.heap.IsSliceOf sl .none (.int b u) .none) (hb : b ≤ n) (h : Q ((0 : Int), 1, b) s) :
    wpAny (model prog w) A (Builtin.Slice.sliceApplied (.ref sl) (pure (n : Int))) Q E s := by
  obtain ⟨os, hos, hcs, hds⟩ := id hs
  unfold Builtin.Slice.sliceApplied Builtin.Slice.sliceFields
  refine wpAny_bind (wpAny_bind (wpAny_field hos hds (x := .none) rfl (wpAny_bind (wpAny_field hos hds (x := .int b u) rfl (wpAny_bind (wpAny_field hos hds (x := .none) rfl (wpAny_pure ?_)))))))
  refine wpAny_bind (slicePart_none ?_)
  show wpAny _ _ (if ((1 : Int) == 0) = true then _ else _) _ _ s
  rw [if_neg (by decide)]
  refine wpAny_bind (slicePart_none (wpAny_bind (slicePart_int (wpAny_bind (wpAny_pure ?_)))))
  show wpAny _ _ (match Builtin.Slice.sliceAdjust none (some (b : Int)) 1 (n : Int) with | (lo, hi) => pure (lo, (1 : Int), Builtin.Slice.slicePlaces lo hi 1)) _ _ s
  rw [adjust_to b n hb]
  show wpAny _ _ (pure ((0 : Int), (1 : Int), Builtin.Slice.slicePlaces 0 (b : Int) 1)) _ _ s
  have e : Builtin.Slice.slicePlaces 0 (b : Int) 1 = b := by
    unfold Builtin.Slice.slicePlaces
    have h1 : (1 : Int) > 0 := by omega
    simp only [h1, if_true, Int.ediv_one]
    split <;> omega
  rw [e]
  exact wpAny_pure h
theorem pick_to (xs : Array Value) (b : Nat) : ((List.range b).filterMap fun (k : Nat) => xs[((0 : Int) + (k : Int) * 1).toNat]?).toArray = (xs.toList.take b).toArray := by
  have e : (fun (k : Nat) => xs[((0 : Int) + (k : Int) * 1).toNat]?) = fun k => xs[0 + k]? := by
    funext k
    have : ((0 : Int) + (k : Int) * 1).toNat = 0 + k := by omega
    rw [this]
  rw [e]
  have := pick_run xs 0 b
  rw [List.filterMap_map] at this
  have e2 : ((fun x => xs[x]?) ∘ fun x => 0 + x) = fun k => xs[0 + k]? := rfl
  rw [e2] at this
  rw [this, List.drop_zero]
theorem get_to {t sl : Addr} {items : Array Value} {b : Nat} {u : Tok} {Q : Value → Shared → Prop} (ht : IsTup s.heap t items) (hs : s.heap.IsSliceOf sl .none (.int b u) .none) (hb : b < items.size) (hn : items.size ≤ 1000)
    (h : Q (.ref s.heap.objs.size) { s with heap := s.heap.push { cls := .type "tuple", data := .seq (items.toList.take b).toArray } }) : wpAny (model prog w) A (getItem (.ref t) (.ref sl)) Q E s := by
  have hz : sizeOk (.seq (items.toList.take b).toArray) := by
    show (items.toList.take b).toArray.size ≤ sizeLine
    rw [List.size_toArray, List.length_take, Array.length_toList]
    have : (1000 : Nat) ≤ sizeLine := by decide
    omega
  obtain ⟨os, hos, hcs, hds⟩ := id hs
  have hTs : s.TypeIs (.ref sl) "slice" := ⟨os, hos, hcs⟩
  unfold getItem
  try with_reducible refine wpAny_holding ?_
  first | refine wpAny_bind (wpAny_pure ?_) | skip
  refine wpAny_bind (wpAny_sequenceKey ht.typeIs (by decide) ?_)
  refine wpAny_bind (wpAny_callSpecial?_slot (name := Str.ofString "__getitem__") ht.typeIs slot_tuple_getitem
    (wpAny_call_entry slot_tuple_getitem ht.typeIs entry_tuple_getitem ?_ (args_tuple_getitem _ _)))
  show wpAny _ _ (Builtin.Tuple.tupleItemsOf (.ref t) >>= _) _ _ s
  refine wpAny_bind (tupleItemsOf_ ht ?_)
  refine wpAny_bind (wpAny_typeOf hTs ?_)
  rw [if_pos (by decide)]
  refine wpAny_bind (applied_to hs (Nat.le_of_lt hb) ?_)
  have hno : ¬ (((0 : Int) == 0 && (1 : Int) == 1 && b == items.size) = true) := by
    have : (b == items.size) = false := by rw [beq_eq_false_iff_ne]; omega
    rw [this]; simp
  show wpAny _ _ (if ((0 : Int) == 0 && (1 : Int) == 1 && b == items.size) = true then _ else _) _ _ s
  rw [if_neg hno, pick_to items b]
  first
    | exact wpAny_bind (m := Builtin.Tuple.tupleExact _) (wpAny_newObj_type (wpAny_pure ⟨_, rfl, wpAny_pure h⟩) hz)
    | exact wpAny_bind (m := Builtin.Tuple.tupleExact _) (wpAny_newObj_type (wpAny_bind (wpAny_pure (wpAny_pure ⟨_, rfl, wpAny_pure h⟩))) hz)
    | exact wpAny_bind (wpAny_bind (m := Builtin.Tuple.tupleExact _) (wpAny_newObj_type (wpAny_pure (wpAny_pure ⟨_, rfl, wpAny_pure h⟩)) hz))
    | exact wpAny_bind (wpAny_bind (m := Builtin.Tuple.tupleExact _) (wpAny_newObj_type (wpAny_pure ⟨_, rfl, wpAny_pure h⟩) hz))
end
section
variable {prog : Program} {w : World} {A : Around} {E : Value → Shared → Prop} {s : Shared} {h₀ : Heap} {L a : Addr} {m : Str → Option Value} {K : Frag} {news : List (Addr × Obj)} {ns : List Int} {Q : Value → Shared → Prop}
theorem w_cut_K {value slice : Expr} {l : List Value} {dd : Option Addr} {sl : Array (Option Value)} {n : Nat} {b : Int} {u : Tok} (F : Fr h₀ L s.heap m) (N : News h₀ L s.heap news) (X₀ : K.In h₀) (hl : K.lookup a = some ⟨.type "tuple", dd, .seq l.toArray n, sl⟩) (hi : IntsAre l ns)
    (h0 : 0 ≤ b) {k : Int} (hk : (ns.length : Int) = k) (hf : k ≤ 1000) (hb : b < k)
    (h : ∀ D ws h', Fr h₀ L h' m → News h₀ L h' ((D, tupI ws) :: news) → IntsAre ws (ns.take b.toNat) → Q (.ref D) { s with heap := h' })
    (hs : subscripted slice false (.ref a) (.ref s.heap.objs.size) = operate [.ref s.heap.objs.size, .ref a] (getItem (.ref a) (.ref s.heap.objs.size)) := by with_unfolding_all rfl)
    (hg : ∀ r, letTemporaryGo value (.ref a) r = pure () := by intro _; with_unfolding_all rfl) :
    wpAny (model prog w) A (subscriptTail value slice (.ref a) (.ref s.heap.objs.size)) Q E { s with heap := s.heap.push { cls := .type "slice", data := .fields #[.none, .int b u, .none] } } := by
  obtain ⟨b, rfl⟩ : ∃ p : Nat, b = p := ⟨b.toNat, by omega⟩
  have z : l.toArray.size = ns.length := by rw [List.size_toArray, hi.length]
  have ht : IsTup (s.heap.push { cls := .type "slice", data := .fields #[.none, .int b u, .none] }) a l.toArray := (tupK (X₀.keeps F.keep) hl).keeps fun _ _ e => Heap.get?_push_of_some _ e
  refine subscriptTail_ops (s := { s with heap := s.heap.push { cls := .type "slice", data := .fields #[.none, .int b u, .none] } }) ht.typeIs slot_tuple_getitem.lookup
    (get_to ht (Heap.IsSliceOf.new ..) (by rw [z]; omega) (by rw [z]; omega) ?_) hs hg
  have N1 := News.push (F.push { cls := .type "slice", data := .fields #[.none, .int b u, .none] }) (N.grown fun _ _ e => Heap.get?_push_of_some _ e) { cls := .type "tuple", data := .seq (l.take b).toArray }
  rw [Heap.size_push] at N1
  show Q (.ref (s.heap.push _).objs.size) _
  rw [Heap.size_push]
  exact h _ (l.take b) _ ((F.push _).push _) N1 (by rw [Int.toNat_natCast]; exact hi.take b)
theorem w_cut_L {value slice : Expr} {vs : List Value} {n : Nat} {b : Int} {u : Tok} (F : Fr h₀ L s.heap m) (N : News h₀ L s.heap news) (hm : (a, listOf vs.toArray n) ∈ news) (hi : IntsAre vs ns) (h0 : 0 ≤ b) (hf : (ns.length : Int) ≤ 1000)
    (h : ∀ D ws h', Fr h₀ L h' m → News h₀ L h' ((D, listOf (List.toArray ws) 0) :: news) → IntsAre ws (ns.take b.toNat) → Q (.ref D) { s with heap := h' })
    (hs : subscripted slice false (.ref a) (.ref s.heap.objs.size) = operate [.ref s.heap.objs.size, .ref a] (getItem (.ref a) (.ref s.heap.objs.size)) := by with_unfolding_all rfl)
    (hg : ∀ r, letTemporaryGo value (.ref a) r = pure () := by intro _; with_unfolding_all rfl) :
    wpAny (model prog w) A (subscriptTail value slice (.ref a) (.ref s.heap.objs.size)) Q E { s with heap := s.heap.push { cls := .type "slice", data := .fields #[.none, .int b u, .none] } } := by
  have z : vs.toArray.size ≤ sizeLine := by
    have : (1000 : Nat) ≤ sizeLine := by decide
    rw [List.size_toArray, hi.length]; omega
  refine kmk_slice F N (N.isList hm) .none (.int _ _) (fun D h' F' N' _ => h D (slicePick vs.toArray none (some b) none).toList h' F' ?_ (kmk_upto hi h0)) hs hg z
  rw [Array.toArray_toList]
  exact N'
end

/-- the end of a turn of a loop over two entries -/
def TurnEnd (h₀ : Heap) (L : Addr) (s : Shared) (keep : List (Addr × Obj)) (rest : (Str → Option Value) → Prop) (Q : Flow → Shared → Prop) (fl : Flow) (s' : Shared) : Prop :=
  match fl with
  | .ret v => Q (.ret v) s'
  | .brk => Q .next s'
  | _ => ∃ h' tk' m', s' = { s with heap := h', toks := tk' } ∧ Fr h₀ L h' m' ∧ News h₀ L h' keep ∧ rest m'
theorem TurnEnd.intro {h₀ : Heap} {L : Addr} {s : Shared} {keep news : List (Addr × Obj)} {rest : (Str → Option Value) → Prop} {Q : Flow → Shared → Prop} {h' : Heap} {tk' : Nat} {m' : Str → Option Value}
    (F : Fr h₀ L h' m') (N : News h₀ L h' news) (hs : ∀ p ∈ keep, p ∈ news) (h : rest m') : TurnEnd h₀ L s keep rest Q .next { s with heap := h', toks := tk' } :=
  ⟨h', tk', m', rfl, F, fun p hp => N p (hs p hp), h⟩
section
variable {prog : Program} {w : World} {A : Around} {E : Value → Shared → Prop} {s : Shared} {env : Env} {h₀ : Heap} {target : Expr} {body : List Stmt} {Q : Flow → Shared → Prop}
theorem two_turns {ax : Addr} {lo : Obj} {v0 v1 : Value} {n : Nat} {m₀ : Str → Option Value} {news : List (Addr × Obj)}
    (hh : A.handled = none) (F : Fr h₀ env.locals s.heap m₀) (N : News h₀ env.locals s.heap news) (hm : (ax, lo) ∈ news) (hc : lo.cls = .type "tuple") (hd : lo.data = .seq #[v0, v1] n)
    (h : ∀ (I : Addr) (i1 : Obj) (h1 : Heap) (tk1 : Nat), Fr h₀ env.locals h1 m₀ → News h₀ env.locals h1 ((I, i1) :: news) →
      wpAny (model prog w) A (assign target env v0) (fun _ s₂ => wpAny (model prog w) A (execs body env) (TurnEnd h₀ env.locals { s with heap := h1, toks := tk1 } ((I, i1) :: news)
        (fun m1 => ∀ (i2 : Obj) (h2 : Heap) (tk2 : Nat), Fr h₀ env.locals h2 m1 → News h₀ env.locals h2 ((I, i2) :: news) →
          wpAny (model prog w) A (assign target env v1) (fun _ s₃ => wpAny (model prog w) A (execs body env) (TurnEnd h₀ env.locals { s with heap := h2, toks := tk2 } ((I, i2) :: news)
            (fun m2 => ∀ (h3 : Heap) (tk3 : Nat), Fr h₀ env.locals h3 m2 → News h₀ env.locals h3 news → Q .next { s with heap := h3, toks := tk3 }) Q) E s₃) E { s with heap := h2, toks := tk2 }) Q) E s₂) E { s with heap := h1, toks := tk1 }) :
    wpAny (model prog w) A (pyIter (.ref ax)) (fun it s₂ => TurnsAt prog w A h₀ env target body Q E it s₂) E s := by
  refine iter_tupTurns (vs := [v0, v1]) hh F N hm hc hd fun I hI => ?_
  have off : ∀ (it : Obj), ∀ p ∈ news, ∀ q ∈ [(I, it)], p.1 ≠ q.1 := fun it p hp q hq => by
    rw [List.mem_singleton.mp hq]
    exact Nat.ne_of_lt (hI p hp)
  refine ItemsRest.val fun h1 tk1 F1 => ?_
  intro i1 _ N1
  refine wpAny_mono (h I i1 h1 tk1 F1 N1) (fun _ s₂ q => wpAny_mono q (fun fl s₃ q => ?_) fun _ _ e => e) fun _ _ e => e
  have go : (∃ h' tk' m', s₃ = { s with heap := h', toks := tk' } ∧ Fr h₀ env.locals h' m' ∧ News h₀ env.locals h' ((I, i1) :: news) ∧ (∀ (i2 : Obj) (h2 : Heap) (tk2 : Nat), Fr h₀ env.locals h2 m' → News h₀ env.locals h2 ((I, i2) :: news) →
          wpAny (model prog w) A (assign target env v1) (fun _ s₃ => wpAny (model prog w) A (execs body env) (TurnEnd h₀ env.locals { s with heap := h2, toks := tk2 } ((I, i2) :: news)
            (fun m2 => ∀ (h3 : Heap) (tk3 : Nat), Fr h₀ env.locals h3 m2 → News h₀ env.locals h3 news → Q .next { s with heap := h3, toks := tk3 }) Q) E s₃) E { s with heap := h2, toks := tk2 })) →
      UnrEndW h₀ env.locals { s with heap := h1, toks := tk1 } [(I, i1)] (fun m' n' => SubL [(ax, lo)] n' ∧ ItemsRest prog w A E h₀ env target body Q s [(I, "tuple_iterator")] [(ax, lo)] [.val v1] m' n') s₃ := by
    rintro ⟨h', tk', m', rfl, F', N', r⟩
    refine ⟨h', tk', m', news, rfl, F', N', off i1, And.intro hm trivial, ?_⟩
    refine ItemsRest.val fun h2 tk2 F2 => ?_
    intro i2 _ N2
    refine wpAny_mono (r i2 h2 tk2 F2 N2) (fun _ s₂ q => wpAny_mono q (fun fl s₃ q => ?_) fun _ _ e => e) fun _ _ e => e
    have go2 : (∃ h' tk' m', s₃ = { s with heap := h', toks := tk' } ∧ Fr h₀ env.locals h' m' ∧ News h₀ env.locals h' ((I, i2) :: news) ∧ (∀ (h3 : Heap) (tk3 : Nat), Fr h₀ env.locals h3 m' → News h₀ env.locals h3 news → Q .next { s with heap := h3, toks := tk3 })) →
        UnrEndW h₀ env.locals { s with heap := h2, toks := tk2 } [(I, i2)] (fun m' n' => SubL [(ax, lo)] n' ∧ ItemsRest prog w A E h₀ env target body Q s [(I, "tuple_iterator")] [(ax, lo)] [] m' n') s₃ := by
      rintro ⟨h', tk', m', rfl, F', N', r⟩
      exact ⟨h', tk', m', news, rfl, F', N', off i2, And.intro hm trivial, r⟩
    cases fl with
    | ret v => exact q
    | brk => exact q
    | next => exact go2 q
    | cont => exact go2 q
  cases fl with
  | ret v => exact q
  | brk => exact q
  | next => exact go q
  | cont => exact go q
end

end
section
open PySem PySem.W PyProof.Rows PySem.Spec PySem.Calls PyProof.V
theorem near_ok (x w : Int) (hw : 0 < w) : -w ≤ (x + w) % (2 * w) - w ∧ (x + w) % (2 * w) - w < w := by
  have q1 := Int.emod_nonneg (x + w) (show 2 * w ≠ 0 by omega)
  have q2 := Int.emod_lt_of_pos (x + w) (show 0 < 2 * w by omega)
  omega
theorem near_okF (x w : Int) (hw : 0 < w) : -w ≤ (x + w).fmod (2 * w) - w ∧ (x + w).fmod (2 * w) - w < w := by
  rw [Int.fmod_eq_emod_of_nonneg _ (show 0 ≤ 2 * w by omega)]
  exact near_ok x w hw

def FiltEnd (f : Int → Bool) (k : Int) (s : Shared) (ok : Bool) (s' : Shared) : Prop := ok = f k ∧ ∃ tk', s' = { s with toks := tk' }
def FiltSrc (prog : Program) (w : World) (A : Around) (h₀ : Heap) (L : Addr) (m : Str → Option Value) (env : Env) (ct : Expr) (x : Str) (scope : Scope) (cl : List (Str × Addr)) (f : Int → Bool) (Q : Value → Shared → Prop) (xv : Value) (s₁ : Shared) : Prop :=
  ∃ (ax : Addr) (vs : List Value) (ns : List Int) (news : List (Addr × Obj)), xv = .ref ax ∧ A.handled = none ∧ Fr h₀ L s₁.heap m ∧ News h₀ L s₁.heap news ∧ (ax, tupI vs) ∈ news ∧ IntsAre vs ns ∧ vs.length ≤ 1000 ∧ (∀ k ∈ ns, 0 < k) ∧
    (∀ (k : Int) (t : Tok) (I : Addr) (oI : Obj) (C : Addr) (oC : Obj) (D : Addr) (oD : Obj) (m₂ : Str → Option Value) (h : Heap) (tk : Nat) (E' : Value → Shared → Prop), 0 < k → LCg.NsObj oC m₂ → m₂ x = some (.int k t) → Fr h₀ L h m → News h₀ L h ((I, oI) :: (C, oC) :: (D, oD) :: news) →
      wpAny (model prog w) A (isTrue ct (compEnvC scope cl C env) (eval ct (compEnvC scope cl C env))) (FiltEnd f k { s₁ with heap := h, toks := tk }) E' { s₁ with heap := h, toks := tk }) ∧
    ∀ (D : Addr) (ws : List Value) (h : Heap) (tk : Nat), IntsAre ws (ns.filter f) → Fr h₀ L h m → News h₀ L h ((D, listOf ws.toArray ws.length) :: news) → Q (.ref D) { s₁ with heap := h, toks := tk }
theorem FiltSrc.intro {prog : Program} {w : World} {A : Around} {s : Shared} {h₀ : Heap} {L : Addr} {m : Str → Option Value} {env : Env} {ct : Expr} {x : Str} {scope : Scope} {cl : List (Str × Addr)} {f : Int → Bool} {Q : Value → Shared → Prop} {ax : Addr} {vs : List Value} {ns : List Int} {news : List (Addr × Obj)}
    (hh : A.handled = none) (F : Fr h₀ L s.heap m) (N : News h₀ L s.heap news) (hm : (ax, tupI vs) ∈ news) (hi : IntsAre vs ns) (hz : ns.length ≤ 1000) (hp : ∀ k ∈ ns, 0 < k)
    (test : ∀ (k : Int) (t : Tok) (I : Addr) (oI : Obj) (C : Addr) (oC : Obj) (D : Addr) (oD : Obj) (m₂ : Str → Option Value) (h : Heap) (tk : Nat) (E' : Value → Shared → Prop), 0 < k → LCg.NsObj oC m₂ → m₂ x = some (.int k t) → Fr h₀ L h m → News h₀ L h ((I, oI) :: (C, oC) :: (D, oD) :: news) →
      wpAny (model prog w) A (isTrue ct (compEnvC scope cl C env) (eval ct (compEnvC scope cl C env))) (FiltEnd f k { s with heap := h, toks := tk }) E' { s with heap := h, toks := tk })
    (fin : ∀ (D : Addr) (ws : List Value) (h : Heap) (tk : Nat), IntsAre ws (ns.filter f) → Fr h₀ L h m → News h₀ L h ((D, listOf ws.toArray ws.length) :: news) → Q (.ref D) { s with heap := h, toks := tk }) :
    FiltSrc prog w A h₀ L m env ct x scope cl f Q (.ref ax) s :=
  ⟨ax, vs, ns, news, rfl, hh, F, N, hm, hi, by rw [hi.length]; exact hz, hp, test, fin⟩
section
variable {prog : Program} {w : World} {A : Around} {E : Value → Shared → Prop} {s : Shared} {h₀ : Heap} {L : Addr} {m : Str → Option Value} {env : Env}
theorem filt_rest {ct : Expr} {x : Str} {ex : Pos} {scope : Scope} {cl : List (Str × Addr)} {s₂ : Shared} {ax : Addr} {vs : List Value} {ns : List Int} {news : List (Addr × Obj)} {f : Int → Bool} {Fin : List Value → List (Addr × Obj) → Prop}
    (hkind : scope.kind = .function) (hx : scope.names.lookup x = some .local) (hd : (x == ("__debug__" : Str)) = false) (hi : IntsAre vs ns) (hm : (ax, tupI vs) ∈ news) (hp : ∀ k ∈ ns, 0 < k)
    (test : ∀ (k : Int) (t : Tok) (I : Addr) (oI : Obj) (C : Addr) (oC : Obj) (D : Addr) (oD : Obj) (m₂ : Str → Option Value) (h : Heap) (tk : Nat) (E' : Value → Shared → Prop), 0 < k → LCg.NsObj oC m₂ → m₂ x = some (.int k t) → Fr h₀ L h m → News h₀ L h ((I, oI) :: (C, oC) :: (D, oD) :: news) →
      wpAny (model prog w) A (isTrue ct (compEnvC scope cl C env) (eval ct (compEnvC scope cl C env))) (FiltEnd f k { s₂ with heap := h, toks := tk }) E' { s₂ with heap := h, toks := tk })
    (fin : ∀ ws, IntsAre ws (ns.filter f) → Fin ws news) :
    ∀ (k i : Nat) (ys : List Value), i + k = ns.length → IntsAre ys ((ns.take i).filter f) →
      LCt.CompRestT prog w A h₀ L m env ct (.Name x ex) x scope cl s₂ (fun nw => (ax, tupI vs) ∈ nw) (fun i v => vs.toArray[i]? = some v) Fin k i ys news
  | 0, i, ys, he, hy => LCt.CompRestT.zero (fin ys (by rw [List.take_of_length_le (by omega)] at hy; exact hy))
  | k + 1, i, ys, he, hy => by
    refine LCt.CompRestT.succ fun v I oI C oC D m₂ h tk E' hP hC hx2 F N off ne => ?_
    have hP' : vs[i]? = some v := by simpa using hP
    obtain ⟨n, t, rfl, hn⟩ := hi.at i v hP'
    have hlt : i < ns.length := by omega
    have hmem : n ∈ ns := List.mem_of_getElem? hn
    have htk : ns.take (i + 1) = ns.take i ++ [n] := by
      rw [List.take_add_one, hn]; rfl
    have go := filt_rest (ex := ex) hkind hx hd hi hm hp test fin k (i + 1)
    refine wpAny_mono (test n t I oI C oC D _ m₂ h tk E' (hp n hmem) hC hx2 F N) (fun ok s' q => ?_) fun _ _ e => e
    obtain ⟨rfl, tk', rfl⟩ := q
    by_cases hf : f n = true
    · rw [if_pos hf]
      refine LCgL.ld_own N (List.mem_cons_of_mem _ List.mem_cons_self) hC hx2 ?_ (by simp [compEnvC, relabel, hkind]) (lookup_relabel_local hx) hd
      refine LCg.CompEnd.intro F N news (fun p hp => hp) off hm (go _ (by omega) ?_)
      rw [htk, List.filter_append]
      refine hy.append ?_
      rw [List.filter_cons, if_pos hf]
      exact .cons _ _ .nil
    · rw [if_neg hf]
      refine LCg.CompEnd.intro F N news (fun p hp => hp) off hm (go _ (by omega) ?_)
      rw [htk, List.filter_append, List.filter_cons, if_neg hf]
      simpa using hy
theorem tup_st {ax I : Addr} {vs : List Value} : ∀ i (h h' : Heap) (o : Obj) (nw : List (Addr × Obj)), (h.IsTupleIter I ax i ∧ h.IsTuple ax vs.toArray) → h.get? I = some o → h'.get? I = some o → (∀ b o, h₀.get? b = some o → h'.get? b = some o) → News h₀ L h' nw → (ax, tupI vs) ∈ nw → (h'.IsTupleIter I ax i ∧ h'.IsTuple ax vs.toArray) :=
  fun _i _h _h' o _nw st e e' _k N S => ⟨by obtain ⟨o', q, r⟩ := st.1; rw [e] at q; cases q; exact ⟨o, e', r⟩, ⟨_, (N _ S).1, rfl, 0, rfl⟩⟩
theorem filt_comp {ct iter : Expr} {x : Str} {px ex : Pos} {scope : Scope} {cl : List (Str × Addr)} {pos : Pos} {f : Int → Bool} {Q : Value → Shared → Prop} (_F₀ : Fr h₀ L s.heap m)
    (hclos : closureFor scope env = pure cl) (hcell : ∀ y ∈ scope.names, y.2 ≠ .cell) (hkind : scope.kind = .function)
    (hnames : ∀ y ∈ scope.names, y.2 = .local → scope.names.lookup y.1 = some .local) (hx : scope.names.lookup x = some .local) (hd : (x == ("__debug__" : Str)) = false)
    (h : wpAny (model prog w) A (eval iter env) (FiltSrc prog w A h₀ L m env ct x scope cl f Q) E s)
    (hs : ∀ x, foldedSetIterable iter env x = pure x := by intro _; rfl) :
    wpAny (model prog w) A (eval (.ListComp (.Name x ex) [⟨.Name x px, iter, [ct], 0⟩] scope pos) env) Q E s := by
  rw [eval_ListComp]
  refine wpAny_comprehension_free (use := none) rfl hs hclos hkind hnames (wpAny_mono h (fun xv s₁ h₁ => ?_) fun _ _ e => e)
  obtain ⟨ax, vs, ns, news, rfl, hh, F, N, hm, hi, hsz, hp, test, fin⟩ := h₁
  have hl : s₁.heap.IsTuple ax vs.toArray := ⟨_, (N _ hm).1, rfl, 0, rfl⟩
  have hlt : ax < s₁.heap.objs.size := by obtain ⟨_, e, _⟩ := hl; exact Heap.lt_size e
  refine wpAny_pyIter_tuple hl ?_
  have up : ∀ b o, s₁.heap.get? b = some o → (s₁.heap.push { cls := .type "tuple_iterator", data := .fields #[.ref ax, .int 0 0] }).get? b = some o := fun b o e => Heap.get?_push_of_some _ e
  have hz : (1000 : Nat) ≤ sizeLine := by decide
  have z : vs.toArray.size = ns.length := by rw [List.size_toArray, hi.length]
  have hlen := hi.length
  refine LCt.block_T (S := fun nw => (ax, tupI vs) ∈ nw) (Fin := LCg.FinE h₀ L m s₁ Q) (Walks.tuple hh s₁.heap.objs.size ax (Nat.ne_of_lt hlt) vs.toArray) (by rw [z]; omega) (fun i h st => by obtain ⟨o, e, _⟩ := st.1; exact ⟨o, e⟩) tup_st hcell hkind hx ⟨⟨_, Heap.get?_push_size _ rfl, rfl, rfl⟩, hl.at fun o e => Heap.get?_push_of_some _ e⟩ (fun b hb => ?_)
    (F.keeps up) (N.grown up) (Nat.ne_of_lt F.ns.lt) (next_is_new F) (fun p hp => Nat.ne_of_lt (Heap.lt_size (N p hp).1)) hm ?_ ?_
  · show b < (s₁.heap.push _).objs.size
    rw [Heap.size_push]
    rcases List.mem_cons.mp hb with rfl | hb
    · exact Nat.lt_succ_self _
    · rw [List.mem_singleton.mp hb]; exact Nat.lt_succ_of_lt hlt
  · rw [z]
    refine filt_rest (s₂ := { s₁ with heap := s₁.heap.push { cls := .type "tuple_iterator", data := .fields #[.ref ax, .int 0 0] } }) hkind hx hd hi hm hp (fun k t I oI C oC D oD m₂ h tk E' a b c d e => test k t I oI C oC D oD m₂ h tk E' a b c d e) (fun ws hw => ?_) ns.length 0 [] (by omega) .nil
    intro D h tk F' N' _
    exact fin D ws h tk hw F' N'
  · intro D C h tk m' ys news' F' N' o1 hn hC₀ hD₀ hCL hDL hCD offC fin'
    refine ⟨m', hn, fun h'' hs'' => fin' D h'' tk (F'.change hs'' hCL hC₀) (fun p hp => ?_) o1⟩
    refine ⟨hs''.extBut _ _ ?_ (N' p hp).1, (N' p hp).2⟩
    rcases List.mem_cons.mp hp with rfl | hp
    · exact Ne.symm hCD
    · exact offC p hp
end
theorem filt_short {f : Int → Bool} {a b c : Int} : (((List.filter f [a, b, c]).length : Nat) : Int) ≤ 1000 := by
  have := List.length_filter_le f [a, b, c]
  simp only [List.length_cons, List.length_nil] at this
  omega
section
variable {prog : Program} {w : World} {A : Around} {E : Value → Shared → Prop} {s : Shared} {h₀ : Heap} {L : Addr} {m : Str → Option Value} {news : List (Addr × Obj)} {a b : Int} {t u : Tok} {Q : Value → Shared → Prop}
theorem w_divmod (F : Fr h₀ L s.heap m) (N : News h₀ L s.heap news) (hb : 0 < b) (hb2 : b < 1000000000) {q r : Int} (e1 : a / b = q) (e2 : a % b = r)
    (h : ∀ (D : Addr) (t' u' : Tok) (h' : Heap) (tk' : Nat), Fr h₀ L h' m → News h₀ L h' ((D, tup2 q t' r u') :: news) → Q (.ref D) { s with heap := h', toks := tk' }) :
    wpAny (model prog w) A (call (.builtin "divmod") [.int a t, .int b u]) Q E s := by
  refine divmod_N F N (by omega) (fun h' F' N' => ?_) (.inl (PyProof.noPylong_small (by omega)))
  rw [Int.fdiv_eq_ediv_of_nonneg _ (by omega), Int.fmod_eq_emod_of_nonneg _ (by omega), e1, e2] at N'
  exact h _ _ _ h' _ F' N'
/-- an item of a list of known ints, by a hint -/
theorem w_item_KH {value slice : Expr} {ns : List Int} {c : Addr} {K : Frag} {k r : Int} {l : List Value} {dd : Option Addr} {sl : Array (Option Value)} {n : Nat} (F : Fr h₀ L s.heap m) (X₀ : K.In h₀) (hl : K.lookup c = some ⟨.type "tuple", dd, .seq l.toArray n, sl⟩) (hi : IntsAre l ns)
    (e : ns.getD k.toNat 0 = r) (h0 : 0 ≤ k) {N : Int} (hN : (ns.length : Int) = N) (hN2 : N ≤ 1000) (h1 : k < N) (h : ∀ t, Q (.int r t) s)
    (hs : subscripted slice false (.ref c) (.int k u) = operate [.ref c, .int k u] (getItem (.ref c) (.int k u)) := by with_unfolding_all rfl) (hg : ∀ r, letTemporaryGo value (.ref c) r = pure () := by intro _; with_unfolding_all rfl) :
    wpAny (model prog w) A (subscriptTail value slice (.ref c) (.int k u)) Q E s := by
  subst e
  exact w_item_K F X₀ hl hi h0 hN hN2 h1 h hs hg
theorem w_item_LH {value slice : Expr} {ns : List Int} {c : Addr} {k r : Int} {vs : List Value} {n : Nat} (N : News h₀ L s.heap news) (hm : (c, listOf vs.toArray n) ∈ news) (hi : IntsAre vs ns) (e : ns.getD k.toNat 0 = r) (h0 : 0 ≤ k) (h1 : k < ns.length) (hfit : k < 2 ^ 63) (h : ∀ t, Q (.int r t) s)
    (hs : subscripted slice false (.ref c) (.int k u) = operate [.ref c, .int k u] (getItem (.ref c) (.int k u)) := by with_unfolding_all rfl) (hg : ∀ r, letTemporaryGo value (.ref c) r = pure () := by intro _; with_unfolding_all rfl) :
    wpAny (model prog w) A (subscriptTail value slice (.ref c) (.int k u)) Q E s := by
  subst e
  exact w_item_L N hm hi h0 h1 hfit h hs hg
end
section
variable {prog : Program} {w : World} {A : Around} {E : Value → Shared → Prop} {s : Shared} {h₀ : Heap} {L : Addr} {news : List (Addr × Obj)} {a b : Addr} {x y z x' y' z' : Int} {t u v t' u' v' : Tok} {Q : Value → Shared → Prop}
theorem w_eq_T3 (N : News h₀ L s.heap news) (m1 : (a, tup3 x t y u z v) ∈ news) (m2 : (b, tup3 x' t' y' u' z' v') ∈ news) (hu : A.units + 64 < cLine) (e1 : x = x') (e2 : y = y') (e3 : z = z') (h : Q (.bool true) s) :
    wpAny (model prog w) A (compareOp .Eq (.ref a) (.ref b)) Q E s := by
  subst e1; subst e2; subst e3
  refine eq_dataH (reads_tuple_at (N.get m1) rfl rfl (ReadsAll.cons (Reads.int _ _) (ReadsAll.cons (Reads.int _ _) (ReadsAll.cons (Reads.int _ _) ReadsAll.nil))))
    (reads_tuple_at (N.get m2) rfl rfl (ReadsAll.cons (Reads.int _ _) (ReadsAll.cons (Reads.int _ _) (ReadsAll.cons (Reads.int _ _) ReadsAll.nil)))) rfl rfl hu ?_
  simp only [PyData.eqv, PyData.eqvAll, beq_self_eq_true, Bool.and_true]
  exact h
theorem w_ne_T3 (N : News h₀ L s.heap news) (m1 : (a, tup3 x t y u z v) ∈ news) (m2 : (b, tup3 x' t' y' u' z' v') ∈ news) (hu : A.units + 64 < cLine) (e1 : x = x') (e2 : y = y') (e3 : z = z') (h : Q (.bool false) s) :
    wpAny (model prog w) A (compareOp .NotEq (.ref a) (.ref b)) Q E s := by
  subst e1; subst e2; subst e3
  refine ne_dataH (reads_tuple_at (N.get m1) rfl rfl (ReadsAll.cons (Reads.int _ _) (ReadsAll.cons (Reads.int _ _) (ReadsAll.cons (Reads.int _ _) ReadsAll.nil))))
    (reads_tuple_at (N.get m2) rfl rfl (ReadsAll.cons (Reads.int _ _) (ReadsAll.cons (Reads.int _ _) (ReadsAll.cons (Reads.int _ _) ReadsAll.nil)))) rfl rfl hu ?_
  simp only [PyData.eqv, PyData.eqvAll, beq_self_eq_true, Bool.and_true, Bool.not_true]
  exact h
end
theorem ib (a b : Int) : (a == b) = decide (a = b) := rfl
theorem ibn (p q : Bool) : (p != q) = !(decide (p = q)) := by cases p <;> cases q <;> rfl
section
variable {prog : Program} {w : World} {A : Around} {E : Value → Shared → Prop} {s : Shared} {h₀ : Heap} {L a : Addr} {m : Str → Option Value} {news : List (Addr × Obj)} {ns : List Int} {Q : Value → Shared → Prop}
theorem w_sum_TH {l : List Value} (F : Fr h₀ L s.heap m) (N : News h₀ L s.heap news) (hh : A.handled = none) (hm : (a, tupI l) ∈ news) (hi : IntsAre l ns) {k : Int} (e : ns.sum = k)
    (h : ∀ h' tk t', Fr h₀ L h' m → News h₀ L h' news → Q (.int k t') { s with heap := h', toks := tk }) : wpAny (model prog w) A (call (.builtin "sum") [.ref a]) Q E s := by
  subst e; exact w_sum_T F N hh hm hi h
theorem w_sum_LH {l : List Value} {n : Nat} (F : Fr h₀ L s.heap m) (N : News h₀ L s.heap news) (hh : A.handled = none) (hm : (a, listOf l.toArray n) ∈ news) (hi : IntsAre l ns) {k : Int} (e : ns.sum = k)
    (h : ∀ h' tk t', Fr h₀ L h' m → News h₀ L h' news → Q (.int k t') { s with heap := h', toks := tk }) : wpAny (model prog w) A (call (.builtin "sum") [.ref a]) Q E s := by
  subst e; exact w_sum_L F N hh hm hi h
end
theorem ret_N {h₀ h' : Heap} {L : Addr} {m : Str → Option Value} {news : List (Addr × Obj)} {s : Shared} {Q E : Value → Shared → Prop} {tk' : Nat} (hret : RetV (fun _ => .none) h₀ L m news s Q E) (F : Fr h₀ L h' m) (N : News h₀ L h' news) : Q .none { s with heap := h', toks := tk' } :=
  hret 0 h' tk' F N

end
section
open PySem PySem.W PyProof.Rows PySem.Spec PySem.Calls PyProof.V
/-- a claim about a call of the def at `f` by the law itself: no frame stands below it, so an exception may be caught on the way -/
abbrev Claim0 (f : Addr) (vs : List Value) (up : Nat) (Ret : Heap → Addr → (Str → Option Value) → List (Addr × Obj) → Shared → (Value → Shared → Prop) → (Value → Shared → Prop) → Prop) : Prop :=
  ∀ (prog : Program) (w : World) (p : Program) (loose : List Str) (mean : ExcName → Option Value) (mg mb : Str → Option Value)
    (dp un : Nat) (gd : Option (List Code)) (cn : Str) (cs : Scope) (a : Addr) (ccd : Value) (A₀ : Around) (base h₀ : Heap) (L : Addr) (m : Str → Option Value) (news : List (Addr × Obj)) (s : Shared) (Q E : Value → Shared → Prop),
    Below A₀ base [] h₀ → Fr h₀ L s.heap m → (hd.heap_39 w.params).In h₀ → News h₀ L s.heap news → Top p loose mean mg mb h₀ → (hd.heap_39 w.params).In base → Top p loose mean mg mb base → cs.kind = .function →
    dp + up < recursionLimit → un + 8 * up < cLine → Ret h₀ L m news s Q E →
      wpAny (model prog w) (ktrTop dp un gd cn cs L a ccd [] []) (call (.ref f) vs) Q E s
theorem use0 {f : Addr} {vs : List Value} {up : Nat} {Ret : Heap → Addr → (Str → Option Value) → List (Addr × Obj) → Shared → (Value → Shared → Prop) → (Value → Shared → Prop) → Prop} (C : Claim0 f vs up Ret)
    {prog : Program} {w : World} {p : Program} {loose : List Str} {mean : ExcName → Option Value} {mg mb : Str → Option Value}
    {dp un : Nat} {gd : Option (List Code)} {cn : Str} {cs : Scope} {a : Addr} {ccd : Value} {A₀ : Around} {base h₀ : Heap} {L : Addr} {m : Str → Option Value} {news : List (Addr × Obj)} {s : Shared} {Q E : Value → Shared → Prop}
    (B : Below A₀ base [] h₀) (F : Fr h₀ L s.heap m) (X : (hd.heap_39 w.params).In h₀) (N : News h₀ L s.heap news) (T : Top p loose mean mg mb h₀) (XB : (hd.heap_39 w.params).In base) (TB : Top p loose mean mg mb base) (hk : cs.kind = .function)
    (hd : dp + up < recursionLimit) (hu : un + 8 * up < cLine) (ret : Ret h₀ L m news s Q E) :
    wpAny (model prog w) (ktrTop dp un gd cn cs L a ccd [] []) (call (.ref f) vs) Q E s := C prog w p loose mean mg mb dp un gd cn cs a ccd A₀ base h₀ L m news s Q E B F X N T XB TB hk hd hu ret
/-- what holds of every caller holds of the law itself -/
theorem claim0_of {f : Addr} {vs : List Value} {up : Nat} {Ret : Heap → Addr → (Str → Option Value) → List (Addr × Obj) → Shared → (Value → Shared → Prop) → (Value → Shared → Prop) → Prop} (C : Claim f vs up Ret) : Claim0 f vs up Ret :=
  fun prog w p loose mean mg mb dp un gd cn cs a ccd A₀ base h₀ L m news s Q E B F X N T _ _ hk hd hu ret => C prog w p loose mean mg mb dp un gd cn cs a ccd [] [] A₀ base h₀ L m news s Q E B F X N T hk hd hu ret
theorem w_eq_same {prog : Program} {w : World} {A : Around} {E : Value → Shared → Prop} {s : Shared} {Q : Value → Shared → Prop} {n : Int} {t u : Tok} (h1 : n.natAbs < 4503599627370496) (h : Q (.bool true) s) :
    wpAny (model prog w) A (compareOp .Eq (.float (H n) t) (.float (H n) u)) Q E s :=
  w_eq_ff (n := n) (k := n) rfl rfl h1 h1 (by rw [decide_eq_true (rfl : n = n)]; exact h)

end
section
open PySem PySem.W PyProof.Rows PySem.Spec PySem.Calls PyProof.V
/-- the frame behind any turn of a loop: what the turns store may hold anything -/
abbrev anyF (stored : List Str) (u m : Str → Option Value) : Str → Option Value := fun y => if stored.contains y = true then u y else m y
def TurnAny (h₀ : Heap) (L : Addr) (s : Shared) (keep : List (Addr × Obj)) (stored : List Str) (m₀ : Str → Option Value) (Q : Flow → Shared → Prop) (fl : Flow) (s' : Shared) : Prop :=
  match fl with
  | .ret v => Q (.ret v) s'
  | .brk => Q .next s'
  | _ => ∃ h' tk' m', s' = { s with heap := h', toks := tk' } ∧ Fr h₀ L h' m' ∧ News h₀ L h' keep ∧ ∀ y, stored.contains y = false → m' y = m₀ y
theorem TurnAny.intro {h₀ : Heap} {L : Addr} {s : Shared} {keep news : List (Addr × Obj)} {stored : List Str} {m₀ m' : Str → Option Value} {Q : Flow → Shared → Prop} {h' : Heap} {tk' : Nat}
    (F : Fr h₀ L h' m') (N : News h₀ L h' news) (hs : ∀ p ∈ keep, p ∈ news) (h : ∀ y, stored.contains y = false → m' y = m₀ y) : TurnAny h₀ L s keep stored m₀ Q .next { s with heap := h', toks := tk' } :=
  ⟨h', tk', m', rfl, F, fun p hp => N p (hs p hp), h⟩
theorem same_any {stored : List Str} {u m : Str → Option Value} : ∀ y, stored.contains y = false → anyF stored u m y = m y := fun y h => by
  show (if stored.contains y = true then u y else m y) = m y
  rw [h]; rfl
theorem same_set {stored : List Str} {n : Str} {v : Option Value} {m m₀ : Str → Option Value} (hn : stored.contains n = true) (h : ∀ y, stored.contains y = false → m y = m₀ y) : ∀ y, stored.contains y = false → (if y = n then v else m y) = m₀ y := fun y hy => by
  by_cases e : y = n
  · rw [e, hn] at hy; cases hy
  · rw [if_neg e]; exact h y hy
section
variable {prog : Program} {w : World} {A : Around} {E : Value → Shared → Prop} {s : Shared} {env : Env} {h₀ : Heap} {body : List Stmt} {Q : Flow → Shared → Prop}
theorem range_turns {x : Str} {px : Pos} {r : Addr} {b : Int} {t u v : Tok} {m₀ : Str → Option Value} {news : List (Addr × Obj)} (stored : List Str)
    (hh : A.handled = none) (hr : IsRange s.heap r 0 b 3 t u v) (hb : 0 ≤ b) (hb2 : b ≤ 1000) (F : Fr h₀ env.locals s.heap m₀) (N : News h₀ env.locals s.heap news)
    (turn : ∀ (place : Int) (tp : Tok) (I : Addr) (oI : Obj) (uu : Str → Option Value) (h1 : Heap) (tk1 : Nat), 0 ≤ place → Fr h₀ env.locals h1 (anyF stored uu m₀) → News h₀ env.locals h1 ((I, oI) :: news) →
      wpAny (model prog w) A (assign (.Name x px) env (.int place tp)) (fun _ s₂ => wpAny (model prog w) A (execs body env) (TurnAny h₀ env.locals { s with heap := h1, toks := tk1 } ((I, oI) :: news) stored m₀ Q) E s₂) E { s with heap := h1, toks := tk1 })
    (done : ∀ (uu : Str → Option Value) (h' : Heap) (tk' : Nat), Fr h₀ env.locals h' (anyF stored uu m₀) → News h₀ env.locals h' news → Q .next { s with heap := h', toks := tk' }) :
    wpAny (model prog w) A (pyIter (.ref r)) (fun it s₂ => TurnsAt prog w A h₀ env (.Name x px) body Q E it s₂) E s := by
  have hsz : Builtin.Range.rangeSize 0 b 3 = (((Builtin.Range.rangeSize 0 b 3).toNat : Nat) : Int) := by
    unfold Builtin.Range.rangeSize
    simp only [show (3 : Int) > 0 by decide, if_true]
    split <;> omega
  have hsm : Builtin.Range.small 0 b 3 = true := by
    unfold Builtin.Range.small
    simp only [Builtin.Range.rangeSize, Builtin.Range.rangeFitsLong, Bool.and_eq_true, Bool.or_eq_true, decide_eq_true_eq, beq_iff_eq, show (3 : Int) > 0 by decide, if_true]
    split <;> omega
  generalize (Builtin.Range.rangeSize 0 b 3).toNat = n at hsz
  refine wpAny_pyIter_range hr hsm ?_
  have hn : ∀ p ∈ news, p.1 < s.heap.objs.size := fun p hp => Heap.lt_size (N p hp).1
  have anyOf : ∀ {m : Str → Option Value}, (∀ y, stored.contains y = false → m y = m₀ y) → m = anyF stored m m₀ := fun {m} hm => by
    funext y
    show m y = if stored.contains y = true then m y else m₀ y
    cases hc : stored.contains y with
    | true => rfl
    | false => exact hm y hc
  refine ⟨s.heap.objs.size, [s.heap.objs.size], [s.heap.objs.size], n, _, _, _, m₀, news, fun _ m nx => nx = news ∧ ∀ y, stored.contains y = false → m y = m₀ y, rfl,
    KTurns.ofWalks (Walks.range hh s.heap.objs.size 0 3 n) (fun i v s' Q' E' _ q => wpAny_pure q), ?_, ?_, ?_, ?_, F.push _, fun p hp => ⟨Heap.get?_push_of_some _ (N p hp).1, (N p hp).2⟩, ⟨rfl, fun _ _ => rfl⟩, ?_, ?_⟩
  · intro hm
    exact absurd F.ns.lt ((List.mem_singleton.mp hm) ▸ Nat.lt_irrefl _)
  · intro c hc
    rw [List.mem_singleton.mp hc]
    exact next_is_new F
  · intro p hp hI
    exact absurd (hn p hp) ((List.mem_singleton.mp hI) ▸ Nat.lt_irrefl _)
  · show IsRangeIter _ _ _ _ _
    rw [hsz]
    simpa using Heap.get?_push_size _ rfl
  · rintro i v m₁ news₁ h₁ tk₁ own hi ⟨tp, rfl⟩ ⟨rfl, hm⟩ hoff hown hget hall hst F₁ N₁
    obtain ⟨oI, hI⟩ : ∃ oI, h₁.get? s.heap.objs.size = some oI := ⟨_, hst⟩
    have F₂ : Fr h₀ env.locals h₁ (anyF stored m₁ m₀) := anyOf hm ▸ F₁
    have N₂ : News h₀ env.locals h₁ ((s.heap.objs.size, oI) :: news₁) := fun p hp => by
      rcases List.mem_cons.mp hp with rfl | hp
      · exact N₁ _ (List.mem_append_left _ (hall _ (List.mem_singleton.mpr rfl) (next_is_new F) _ hI))
      · exact N₁ p (List.mem_append_right _ hp)
    refine wpAny_mono (turn (0 + i * 3) tp s.heap.objs.size oI m₁ h₁ tk₁ (by omega) F₂ N₂) (fun _ s₂ q => wpAny_mono q (fun fl s₃ q => ?_) fun _ _ e => e) fun _ _ e => e
    have go : (∃ h' tk' m', s₃ = { s with heap := h', toks := tk' } ∧ Fr h₀ env.locals h' m' ∧ News h₀ env.locals h' ((s.heap.objs.size, oI) :: news₁) ∧ ∀ y, stored.contains y = false → m' y = m₀ y) →
        LoopStepU h₀ env.locals [s.heap.objs.size] own (fun m nx => nx = news₁ ∧ ∀ y, stored.contains y = false → m y = m₀ y) { s with heap := h₁, toks := tk₁ } .next s₃ := by
      rintro ⟨h', tk', m', rfl, F', N', hm'⟩
      refine ⟨rfl, h', tk', m', news₁, rfl, F', ?_, hoff, rfl, hm'⟩
      intro p hp
      rcases List.mem_append.mp hp with hp | hp
      · have h2 := hget p hp
        have h3 := List.mem_singleton.mp (hown p hp)
        rw [h3, hI] at h2
        have h4 := Option.some.inj h2
        obtain ⟨pa, po⟩ := p
        dsimp only at h3 h4
        subst h3; subst h4
        exact N' _ (List.mem_cons_self ..)
      · exact N' p (List.mem_cons_of_mem _ hp)
    cases fl with
    | ret v => exact .ret q
    | brk => exact .brk q
    | next => exact .next (go q)
    | cont => exact .cont (go q)
  · rintro h' tk m' news' F' N' _ ⟨rfl, hm⟩
    exact done m' h' tk (anyOf hm ▸ F') N'
end
/-- the list that an expression of two arms gives back -/
structure JoinNums : Prop where
def JoinL (h₀ : Heap) (L : Addr) (m : Str → Option Value) (news : List (Addr × Obj)) (s : Shared) (v : Value) (s' : Shared) : Prop :=
  ∃ (a : Addr) (vs : List Value) (n : Nat) (ns : List Int) (h' : Heap) (tk' : Nat), v = .ref a ∧ s' = { s with heap := h', toks := tk' } ∧ IntsAre vs ns ∧ (ns.length : Int) ≤ 9 ∧ Fr h₀ L h' m ∧ News h₀ L h' ((a, listOf vs.toArray n) :: news)
theorem JoinL.intro {h₀ : Heap} {L : Addr} {m : Str → Option Value} {news news' : List (Addr × Obj)} {s : Shared} {a : Addr} {vs : List Value} {n : Nat} {ns : List Int} {h' : Heap} {tk' : Nat} (hi : IntsAre vs ns) (hl : (ns.length : Int) ≤ 9) (F : Fr h₀ L h' m) (N : News h₀ L h' news')
    (hm : (a, listOf vs.toArray n) ∈ news') (hs : ∀ p ∈ news, p ∈ news') : JoinL h₀ L m news s (.ref a) { s with heap := h', toks := tk' } :=
  ⟨a, vs, n, ns, h', tk', rfl, rfl, hi, hl, F, fun p hp => by
    rcases List.mem_cons.mp hp with rfl | hp
    · exact N _ hm
    · exact N p (hs p hp)⟩
theorem join_nums {M : Model} {A : Around} {E : Value → Shared → Prop} {s : Shared} {env : Env} {h₀ : Heap} {L : Addr} {m : Str → Option Value} {news : List (Addr × Obj)} {Q : Value → Shared → Prop} {a b c : Expr} {pos : Pos} (_hj : JoinNums) (_F : Fr h₀ L s.heap m) (_N : News h₀ L s.heap news)
    (hc : wpAny M A (eval (.IfExp a b c pos) env) (JoinL h₀ L m news s) E s)
    (h : ∀ (a : Addr) (vs : List Value) (n : Nat) (ns : List Int) (h' : Heap) (tk' : Nat), IntsAre vs ns → (ns.length : Int) ≤ 9 → Fr h₀ L h' m → News h₀ L h' ((a, listOf vs.toArray n) :: news) → Q (.ref a) { s with heap := h', toks := tk' }) :
    wpAny M A (eval (.IfExp a b c pos) env) Q E s := by
  refine wpAny_mono hc (fun v s' q => ?_) fun _ _ y => y
  obtain ⟨a, vs, n, ns, h', tk', rfl, rfl, hi, hl, F', N'⟩ := q
  exact h a vs n ns h' tk' hi hl F' N'
section
variable {prog : Program} {w : World} {A : Around} {E : Value → Shared → Prop} {s : Shared} {h₀ : Heap} {L : Addr} {m : Str → Option Value} {Q : Value → Shared → Prop} {t u : Tok}
/-- an item of a list of known ints, by what its items obey -/
theorem w_item_bd {value slice : Expr} {ns : List Int} {c : Addr} {K : Frag} {k : Int} {l : List Value} {dd : Option Addr} {sl : Array (Option Value)} {n : Nat} (lo hi : Int) (F : Fr h₀ L s.heap m) (X₀ : K.In h₀) (hl : K.lookup c = some ⟨.type "tuple", dd, .seq l.toArray n, sl⟩) (hi' : IntsAre l ns)
    (hbd : ∀ x ∈ ns, lo ≤ x ∧ x ≤ hi) (h0 : 0 ≤ k) {N : Int} (hN : (ns.length : Int) = N) (hN2 : N ≤ 1000) (h1 : k < N) (h : ∀ r t, lo ≤ r → r ≤ hi → Q (.int r t) s)
    (hs : subscripted slice false (.ref c) (.int k u) = operate [.ref c, .int k u] (getItem (.ref c) (.int k u)) := by with_unfolding_all rfl) (hg : ∀ r, letTemporaryGo value (.ref c) r = pure () := by intro _; with_unfolding_all rfl) :
    wpAny (model prog w) A (subscriptTail value slice (.ref c) (.int k u)) Q E s := by
  refine w_item_K F X₀ hl hi' h0 hN hN2 h1 (fun t => ?_) hs hg
  have hlt : k.toNat < ns.length := by omega
  have hm : ns.getD k.toNat 0 ∈ ns := by
    rw [List.getD_eq_getElem?_getD, List.getElem?_eq_getElem hlt]
    exact List.getElem_mem hlt
  exact h _ t (hbd _ hm).1 (hbd _ hm).2
theorem mul_bd {a b : Int} (h1 : -50000 ≤ a) (h2 : a ≤ 50000) (h3 : 1 ≤ b) (h4 : b ≤ 146097) : -7304850000 ≤ a * b ∧ a * b ≤ 7304850000 := by
  have e1 : a * b ≤ 50000 * b := Int.mul_le_mul_of_nonneg_right h2 (by omega)
  have e2 : -50000 * b ≤ a * b := Int.mul_le_mul_of_nonneg_right h1 (by omega)
  omega
end
section
variable {prog : Program} {w : World} {A : Around} {E : Value → Shared → Prop} {s : Shared} {a b : Int} {t u : Tok} {Q : Value → Shared → Prop}
theorem w_mul_bd (h1 : -50000 ≤ a) (h2 : a ≤ 50000) (h3 : 1 ≤ b) (h4 : b ≤ 146097) (h : ∀ (r : Int) (t' : Tok) (tk : Nat), -7304850000 ≤ r → r ≤ 7304850000 → Q (.int r t') { s with toks := tk }) :
    wpAny (model prog w) A (binaryOp .Mult (.int a t) (.int b u)) Q E s := by
  obtain ⟨m1, m2⟩ := mul_bd h1 h2 h3 h4
  exact mul_int (h _ _ _ m1 m2)
theorem w_mod_ii (hb : 0 < b) (h : Q (.int (a % b) s.toks) { s with toks := s.toks + 1 }) : wpAny (model prog w) A (binaryOp .Mod (.int a t) (.int b u)) Q E s := by
  refine mod_int (by omega) ?_
  rw [Int.fmod_eq_emod_of_nonneg _ (by omega)]
  exact h
end

end
section
open PySem PySem.W PyProof.Rows PySem.Spec PySem.Calls PyProof.V
/-- the exception's own fields: its arguments, its traceback, its context, its cause -/
abbrev excF (t tb cx ca : Value) (b : Bool) : Array Value := #[t, tb, cx, ca, .bool b, .none]
section
variable {M : Model} {A : Around} {E : Value → Shared → Prop} {s : Shared}
/-- a new exception is noted in the frame that raised it -/
theorem note_first {base : Heap} {env : Env} {outer : List Env} {L e : Addr} {oe : Obj} {t cx ca : Value} {b : Bool} {Q : Unit → Shared → Prop}
    (hfr : A.frames = some (env :: outer)) (hl : s.heap.FunFrames base (env :: outer)) (hf : env.frame = some L)
    (he : s.heap.get? e = some oe) (hkb : base.StaysIn s.heap) (hen : base.get? e = none) (hd : oe.data = .fields (excF t .none cx ca b))
    (h : ∀ h' T ob, Heap.HeldW base (env :: outer) e oe.cls t L h' → s.heap.UpToSlots h' → h'.get? e = some ob → ob.cls = oe.cls → ob.data = .fields (excF t (.ref T) cx ca b) → (∀ b' o, b' ∉ (env :: outer).filterMap (·.frame) → b' ≠ e → s.heap.get? b' = some o → h'.get? b' = some o) → Q () { s with heap := h' }) :
    wpAny M A (noteFrame (.ref e) env) Q E s := by
  unfold noteFrame
  simp only [hf]
  refine wpAny_bind (wpAny_field he hd (x := .none) rfl ?_)
  rw [if_neg (by decide)]
  have hene : e ∉ (env :: outer).filterMap (·.frame) := fun hm => by
    obtain ⟨_, o, ho, hnf⟩ := hl.mem hm
    rw [he] at ho; injection ho with ho; subst ho; exact hnf _ hd
  refine wpAny_bind (wpAny_frameOf_fun hfr hl hf fun h₁ hs₁ => ?_)
  refine wpAny_bind (wpAny_entryPlaceOf fun pl hpl => ?_)
  unfold EntryCells.newEntry newFields
  refine wpAny_bind (wpAny_newObj_type ?_ (hpl.sizeOk5 _ _ _ _ _))
  have he₁ : h₁.get? e = some oe := (hs₁.2.1 e hene).trans he
  have kb₁ : base.StaysIn h₁ := fun b o hbo => (hs₁.2.1 b fun hm => by rw [(hl.mem hm).1] at hbo; cases hbo).trans (hkb b o hbo)
  generalize hTo : ({ cls := .type "traceback", dict := none, data := .fields ([Value.none, .ref L, .none, rawInt L, .none] ++ (if pl.isEmpty then List.replicate 6 Value.none else pl)).toArray } : Obj) = To
  have hTd : To.data = .fields ([Value.none, .ref L, .none, rawInt L, .none] ++ (if pl.isEmpty then List.replicate 6 Value.none else pl)).toArray := by rw [← hTo]
  have he₂ := Heap.get?_push_of_some (h := h₁) To he₁
  refine wpAny_setField he₂ hd (show 1 < 6 by decide) ?_
  have hTe : h₁.objs.size ≠ e := Nat.ne_of_gt (Heap.lt_size he₁)
  have hd₃ := Obj.data_mapFields hd (·.setIfInBounds 1 (Value.ref h₁.objs.size))
  have he₃ := Heap.get?_update_self (Obj.mapFields (·.setIfInBounds 1 (Value.ref h₁.objs.size))) he₂ (Obj.isFreed_of_fields hd₃)
  have hT₃ := (Heap.get?_update_other (h₁.push To) (Obj.mapFields (·.setIfInBounds 1 (Value.ref h₁.objs.size))) (Ne.symm hTe)).trans (Heap.get?_push_size h₁ (by rw [← hTo]; rfl))
  have keep : ∀ b o, b ≠ e → h₁.get? b = some o → ((h₁.push To).update e (Obj.mapFields (·.setIfInBounds 1 (Value.ref h₁.objs.size)))).get? b = some o := fun b o hbe hb => by
    rw [Heap.get?_update_other _ _ (Ne.symm hbe)]
    exact Heap.get?_push_of_some _ hb
  have noRecord : ∀ b o, s.heap.get? b = some o → (∀ vs, o.data ≠ .fields vs) → b ≠ e := fun b o hb hnf q => by
    rw [q, he] at hb; injection hb with hb; subst hb; exact hnf _ hd
  refine h _ h₁.objs.size _ ⟨fun b o hbo => keep b o (fun q => by rw [q, hen] at hbo; cases hbo) (kb₁ b o hbo), hen, hl.of_keeps fun b o hb hnf => ?_, ?_⟩ (fun b o hb hnf => ?_) he₃ (Obj.cls_mapFields _ _) (by rw [hd₃]; rfl) (fun b' o hb' hbe hb => keep b' o hbe ((hs₁.2.1 b' hb').trans hb))
  · obtain ⟨sl, hs⟩ := hs₁.2.2 b o hb
    exact ⟨_, keep b _ (noRecord b o hb hnf) hs, rfl⟩
  · exact ⟨_, _, h₁.objs.size, _, _, he₃, ⟨Obj.cls_mapFields _ _, by rfl⟩, hd₃, by simp, kb₁.fresh, hTe, hT₃, hTd, by first | (simp; done) | (rcases hpl with rfl | ⟨_, _, _, _, _, _, _, rfl⟩ <;> simp)⟩
  · obtain ⟨sl, hs⟩ := hs₁.2.2 b o hb
    exact ⟨sl, keep b _ (noRecord b o hb hnf) hs⟩
/-- its flight ends: it stays as it is -/
theorem lands_as {base : Heap} {l : List Env} {e : Addr} {cls a0 fl : Value} {ob : Obj} {Q : Unit → Shared → Prop} (hkb : base.StaysIn s.heap) (hen : base.get? e = none) (hl : s.heap.FunFrames base l) (ht : s.heap.TracedAtW base e cls a0 fl) (he0 : s.heap.get? e = some ob)
    (hQ : ∀ h', Heap.FlyingW base l e cls a0 h' → s.heap.UpToSlots h' → h'.get? e = some ob → Q () { s with heap := h' }) : wpAny M A (setFlight (.ref e) none) Q E s := by
  obtain ⟨oe, vs, T, oT, ts, he, hcls, hd, h1, hnT, hTe, hT, hdT, h3⟩ := ht
  have hsz3 : 3 < ts.size := (Array.getElem?_eq_some_iff.mp h3).1
  have other : ∀ b, b ≠ T → (s.heap.update T (Obj.mapFields (·.setIfInBounds 3 ((none : Option Addr).elim Value.none fun f => rawInt f)))).get? b = s.heap.get? b :=
    fun b hb => Heap.get?_update_other _ _ (Ne.symm hb)
  have noRecord : ∀ b o, s.heap.get? b = some o → (∀ vs, o.data ≠ .fields vs) → b ≠ T := fun b o hb hnf q => by
    rw [q, hT] at hb; injection hb with hb; subst hb; exact hnf ts hdT
  unfold setFlight
  refine wpAny_bind (wpAny_field he hd h1 ?_)
  rw [if_pos (show (Value.ref T != Value.none) = true from by simp)]
  refine wpAny_setField hT hdT hsz3 (hQ _ ⟨fun b o hbo => (other b fun q => by rw [q, hnT] at hbo; cases hbo).trans (hkb b o hbo), hen,
    hl.of_keeps fun b o hb hnf => ⟨o, (other b (noRecord b o hb hnf)).trans hb, rfl⟩, ?_⟩ (fun b o hb hnf => ⟨o.slots, (other b (noRecord b o hb hnf)).trans hb⟩) ((other e (Ne.symm hTe)).trans he0))
  exact ⟨oe, vs, T, _, _, (other e (Ne.symm hTe)).trans he, hcls, hd, h1, hnT, hTe, Heap.get?_update_self _ hT (Obj.isFreed_of_fields (Obj.data_mapFields hdT _)), Obj.data_mapFields hdT _, by simp [hsz3]⟩
end
section
variable {prog : Program} {w : World} {A₀ : Around} {E : Value → Shared → Prop} {s' : Shared} {base g g₀ h : Heap} {outer : List Env} {L a e : Addr} {m : Str → Option Value} {name : Str} {scope : Scope} {cd : Value}
  {n : Str} {b₀ : Stmt} {suite : List Stmt} {pos np : Pos} {rest : List ExceptHandler} {Q : Flow → Shared → Prop} {news : List (Addr × Obj)} {KF : Frag}
  {p : Program} {loose : List Str} {mean : ExcName → Option Value} {mg mb : Str → Option Value} {x : Str} {X T' : String}
/-- a new exception of the frame's own, caught in it under a name, below the law -/
theorem caught_new (K : Below A₀ base outer g) (F : Fr g L h m) (hx : Heap.NewExc h s'.heap e X) (N : News g L h news) (XB : KF.In base) (TB : Top p loose mean mg mb base)
    (D : KtsDicts (outer.filterMap (·.frame)) g) (T0 : KtsTurn (outer.filterMap (·.frame)) g₀ g)
    (ex : nsIn KF mainGlobals x = some none) (hv : bootBuiltins x = some (.type T')) (hn' : x ≠ "__name__")
    (hexc : isSubtype (.type T') (.type "BaseException") = pure true) (hnt : isSubtype (.type ((Manifest.find? T').elim "type" fun y => y.metatype)) (.type "tuple") = pure false) (hsub : isSubtype (.type X) (.type T') = pure true)
    (k : ∀ h' g' tk t T ob, ob.cls = .type X → ob.data = .fields (excF t (.ref T) .none .none false) → KtsTurn (outer.filterMap (·.frame)) g₀ g' → Fr g' L h' (fun y => if y = n then some (.ref e) else m y) → News g' L h' ((e, ob) :: news) → Below A₀ base outer g' → KF.In g' → Top p loose mean mg mb g' → KtsDicts (outer.filterMap (·.frame)) g' →
      wpAny (model prog w) ((A₀.deeper (envOf name scope L a cd)).mark (some (.ref e))) (execs (b₀ :: suite) (envOf name scope L a cd))
        (fun f s₄ => wpAny (model prog w) (A₀.deeper (envOf name scope L a cd)) (do bindName (envOf name scope L a cd) n .none; unbindBehindTheSuite (envOf name scope L a cd) n pos) (fun _ s₅ => Q f s₅) E s₄)
        (AsSuiteRaised (model prog w) ((A₀.deeper (envOf name scope L a cd)).mark (some (.ref e))) (envOf name scope L a cd) n pos (notedBy (model prog w) ((A₀.deeper (envOf name scope L a cd)).mark (some (.ref e))) (envOf name scope L a cd) (cameBackBy (model prog w) (A₀.deeper (envOf name scope L a cd)) (envOf name scope L a cd) E)))
        { s' with heap := h', toks := tk })
    (hk : scope.kind = .function := by rfl) (hlo : (envOf name scope L a cd).kindOf n = some .local := by rfl) (hx' : (envOf name scope L a cd).kindOf x = some .globalImplicit := by rfl) (hd : (x == ("__debug__" : Str)) = false := by decide) :
    wpAny (model prog w) (A₀.deeper (envOf name scope L a cd)) (noteFrame (.ref e) (envOf name scope L a cd))
      (fun _ s₂ => wpAny (model prog w) (A₀.deeper (envOf name scope L a cd)) (setFlight (.ref e) none) (fun _ s₃ =>
        wpAny (model prog w) (A₀.deeper (envOf name scope L a cd)) (handleBy (.ref e) (envOf name scope L a cd) (.ExceptHandler (some (.Name x np)) (some n) (b₀ :: suite) pos :: rest)) Q E s₃) E s₂) E s' := by
  have K' := K.push (name := name) (a := a) (cd := cd) F hk
  have hin : ∀ env ∈ (envOf name scope L a cd :: outer), ∀ b, env.frame = some b → b ∈ (envOf name scope L a cd :: outer).filterMap (·.frame) := fun env he b hb => List.mem_filterMap.mpr ⟨env, he, hb⟩
  generalize hB : hideAll h ((envOf name scope L a cd :: outer).filterMap (·.frame)) = B
  have hBG : ∀ b o, h.get? b = some o → b ∉ (envOf name scope L a cd :: outer).filterMap (·.frame) → B.get? b = some o := fun b o q nm => by rw [← hB]; exact hideAll_get _ q nm
  have hBof : ∀ b o, B.get? b = some o → h.get? b = some o := fun b o q => by rw [← hB] at q; exact of_hideAll _ q
  have hL : B.get? L = none := by rw [← hB]; exact hideAll_none _ (hin _ (.head _) L rfl)
  have hen : B.get? e = none := by
    cases q : B.get? e with
    | none => rfl
    | some o => have := hBof _ _ q; rw [hx.new] at this; cases this
  obtain ⟨oe, t, he, hcls, hdat⟩ := hx.there
  have hLe : e ≠ L := fun q => by
    obtain ⟨oL, _, _, ho, _⟩ := F.ns
    have := hx.new
    rw [q, ho] at this; cases this
  have hge : g.get? e = none := kts_none F.keep hx.new
  have hNB : ∀ q ∈ news, B.get? q.1 = some q.2 := fun q hq => hBG _ _ (N q hq).1 fun hm => by
    rcases kts_mem hm with z | z
    · exact (N q hq).2.1 z
    · obtain ⟨env, he', hf⟩ := List.mem_filterMap.mp z
      obtain ⟨o, ho, _⟩ := (K.frames.mem (List.mem_filterMap.mpr ⟨env, he', hf⟩)).2
      rw [(N q hq).2.2] at ho; cases ho
  refine note_first (base := B) (Around.frames_deeper K.stack) (by rw [← hB]; exact (funFrames_hide K'.frames hin).of_keeps fun b o hb _ => ⟨o, hx.keeps b o hb, rfl⟩) rfl he (fun b o hb => hx.keeps b o (hBof _ _ hb)) hen hdat
    fun h₄ T ob hheld₄ hsm₄ hob hobc hobd _ => ?_
  obtain ⟨q1, q2, q3, q4⟩ := hheld₄
  refine lands_as q1 q2 q3 q4 hob fun h₅ hheld hsm₅' hob₅ => ?_
  have hsm₅ : h.UpToSlots h₅ := (Heap.UpToSlots.of_keeps hx.keeps).trans (hsm₄.trans hsm₅')
  obtain ⟨g₅, T₅, F₅, K₅⟩ := kts_ground K F hBG hheld.1 hsm₅
  have X₅ : KF.In g₅ := XB.keeps K₅.stays
  have P₅ : TopRead p loose mg mb g₅ := topRead_of (TB.keeps K₅.stays)
  have hobX : ob.cls = .type X := hobc.trans hcls
  refine wpAny_handleBy_builtin_as (X := X) (T := T') (b := true) hexc hnt hsub (name_B F₅ X₅ P₅ ex hv hn' ⟨rfl, ⟨ob, hob₅, hobX⟩, ?_⟩ hk hx' hd)
  refine lands_as hheld.1 hheld.2.1 hheld.2.2.1 hheld.2.2.2.at hob₅ fun h₆ hfl₆ hsm₆ hob₆ => ?_
  obtain ⟨g₆, T₆, F₆, K₆⟩ := kts_ground K F hBG hfl₆.1 (hsm₅.trans hsm₆)
  have Nl : News g₆ L h₆ ((e, ob) :: news) := fun q hq => by
    rcases List.mem_cons.mp hq with rfl | hq
    · exact ⟨hob₆, hLe, T₆.none_ _ hge⟩
    · exact ⟨hfl₆.1 _ _ (hNB q hq), (N q hq).2.1, T₆.none_ _ (N q hq).2.2⟩
  refine stN F₆ Nl (fun h₇ F₇ N₇ => ?_) hk hlo
  exact k h₇ g₆ _ t T ob hobX hobd (T0.trans T₆) F₇ N₇ K₆ (XB.keeps K₆.stays) (TB.keeps K₆.stays) (D.turn T₆)
end

end
section
open PySem PySem.W PyProof.Rows PySem.Spec PySem.Calls PyProof.V
set_option maxRecDepth 100000
theorem entry_unchain : entryFor table "proto.unchain" = some Builtin.«proto.unchain» := entryFor_of_tree (by kernel_rfl)
section
variable {prog : Program} {w : World} {A : Around} {E : Value → Shared → Prop} {s : Shared} {env : Env} {X N I Y : String}
theorem run_unchain {v : Value} {e : Addr} {ob : Obj} {vs : Array Value} {Q : Value → Shared → Prop} (he : s.heap.get? e = some ob) (hd : ob.data = .fields vs) (h2 : vs[2]? = some .none) (h : Q .none s) :
    wpAny (model prog w) A (runValue (.builtin "proto.unchain" ⟨[v, .ref e, .ref e, .bool false], []⟩)) Q E s := by
  refine runValue_entry entry_unchain ?_
  unfold Builtin.«proto.unchain»
  refine wpAny_bind (wpAny_field he hd h2 ?_)
  rw [if_pos (by decide)]
  exact wpAny_pure ⟨_, rfl, h⟩
theorem isType_exc {e : Addr} {ob : Obj} {vs : Array Value} {Q : Bool → Shared → Prop} (he : s.heap.get? e = some ob) (hd : ob.data = .fields vs) (h : Q false s) : wpAny (model prog w) A (isType (.ref e)) Q E s := by
  simp only [isType, loadHead]
  refine wpAny_bind (wpAny_loadPart he ?_)
  rw [hd]; exact wpAny_pure h
/-- raise X from the exception that is being handled -/
theorem Raise_from {x n : Str} {np cp pos : Pos} {e : Addr} {ob : Obj} {t0 tb ca : Value} {b : Bool} {Q : Flow → Shared → Prop} (hh : A.handled = some (.ref e)) (hc : ExcClass X N I)
    (hself : isSubtype (.type X) (.type X) = pure true) (he : s.heap.get? e = some ob) (hcls : ob.cls = .type Y) (hd : ob.data = .fields (excF t0 tb .none ca b)) (hY : isSubtype (.type Y) (.type "BaseException") = pure true)
    (hx : wpAny (model prog w) A (eval (.Name x np) env) (fun v s₁ => v = .type X ∧ s₁ = s) E s)
    (hn : wpAny (model prog w) A (eval (.Name n cp) env) (fun v s₁ => v = .ref e ∧ s₁ = s) E s)
    (h : ∀ h' e2 ob2 t, s.heap.get? e2 = none → (∀ b o, s.heap.get? b = some o → h'.get? b = some o) → h'.get? e2 = some ob2 → ob2.cls = .type X → ob2.data = .fields (excF t .none (.ref e) (.ref e) true) → E (.ref e2) { s with heap := h' }) :
    wpAny (model prog w) A (exec (.Raise (some (.Name x np)) (some (.Name n cp)) pos) env) Q E s := by
  show wpAny (model prog w) A (do standAt pos; raiseStmt env (some (do let v ← eval (.Name x np) env; standAt pos; pure v)) (some (do let c ← eval (.Name n cp) env; standAt pos; pure c))) Q E s
  refine wpAny_bind (wpAny_standAt ?_)
  unfold raiseStmt
  dsimp only
  refine wpAny_bind (wpAny_bind (wpAny_mono hx (fun v s₁ h₁ => wpAny_bind (wpAny_standAt (wpAny_pure ?_))) fun _ _ e => e))
  obtain ⟨rfl, hs₁⟩ := h₁
  subst s₁
  refine wpAny_bind (wpAny_holding (wpAny_bind (wpAny_mono hn (fun v s₁ h₁ => wpAny_bind (wpAny_standAt (wpAny_pure ?_))) fun _ _ e => e)))
  obtain ⟨rfl, hs₁⟩ := h₁
  subst s₁
  refine wpAny_bind (wpAny_pure ?_)
  dsimp only
  refine wpAny_bind (wpAny_holding ?_)
  unfold excFromValue isExcClass
  refine wpAny_bind (wpAny_bind (wpAny_pure ?_))
  simp only [if_true]
  rw [hc.base]
  refine wpAny_pure ?_
  simp only [if_true]
  refine wpAny_bind (call_exc hc fun h' e2 hnx => ?_)
  obtain ⟨ob2, t, he2, hcls2, hd2⟩ := hnx.there
  have hT : ({ s with heap := h' } : Shared).TypeIs (.ref e2) X := ⟨ob2, he2, hcls2⟩
  have heh : h'.get? e = some ob := hnx.keeps _ _ he
  have hTe : ({ s with heap := h' } : Shared).TypeIs (.ref e) Y := ⟨ob, heh, hcls⟩
  refine wpAny_bind (wpAny_isInstance hT hc.base ?_)
  simp only [Bool.not_true, Bool.false_eq_true, if_false]
  refine wpAny_pure ?_
  rw [if_neg (by simp)]
  refine wpAny_bind (wpAny_holding ?_)
  refine wpAny_bind (wpAny_bind (isType_exc heh hd ?_))
  simp only [Bool.false_eq_true, if_false]
  refine wpAny_pure ?_
  simp only [Bool.false_eq_true, if_false]
  refine wpAny_bind (wpAny_isInstance hTe hY ?_)
  simp only [if_true]
  refine wpAny_pure ?_
  refine wpAny_bind (wpAny_setField he2 hd2 (show 3 < 6 by decide) ?_)
  have hne : e ≠ e2 := fun q => by have := hnx.new; rw [← q, he] at this; cases this
  have d3 := Obj.data_mapFields hd2 (·.setIfInBounds 3 (Value.ref e))
  have g3 := Heap.get?_update_self (Obj.mapFields (·.setIfInBounds 3 (Value.ref e))) he2 (Obj.isFreed_of_fields d3)
  have k3 : ∀ b, b ≠ e2 → (h'.update e2 (Obj.mapFields (·.setIfInBounds 3 (Value.ref e)))).get? b = h'.get? b := fun b hb => Heap.get?_update_other _ _ (Ne.symm hb)
  have c3 : (Obj.mapFields (·.setIfInBounds 3 (Value.ref e)) ob2).cls = .type X := (Obj.cls_mapFields _ _).trans hcls2
  generalize Obj.mapFields (·.setIfInBounds 3 (Value.ref e)) ob2 = ob3 at d3 g3 c3
  generalize h'.update e2 (Obj.mapFields (·.setIfInBounds 3 (Value.ref e))) = h3 at g3 k3
  refine wpAny_bind (wpAny_setField g3 d3 (show 4 < 6 by decide) ?_)
  have d4 := Obj.data_mapFields d3 (·.setIfInBounds 4 (Value.bool true))
  have g4 := Heap.get?_update_self (Obj.mapFields (·.setIfInBounds 4 (Value.bool true))) g3 (Obj.isFreed_of_fields d4)
  have k4 : ∀ b, b ≠ e2 → (h3.update e2 (Obj.mapFields (·.setIfInBounds 4 (Value.bool true)))).get? b = h3.get? b := fun b hb => Heap.get?_update_other _ _ (Ne.symm hb)
  have c4 : (Obj.mapFields (·.setIfInBounds 4 (Value.bool true)) ob3).cls = .type X := (Obj.cls_mapFields _ _).trans c3
  generalize Obj.mapFields (·.setIfInBounds 4 (Value.bool true)) ob3 = ob4 at d4 g4 c4
  generalize h3.update e2 (Obj.mapFields (·.setIfInBounds 4 (Value.bool true))) = h4 at g4 k4
  have hT4 : ({ s with heap := h4 } : Shared).TypeIs (.ref e2) X := ⟨ob4, g4, c4⟩
  first | (refine wpAny_bind (m := isType (.type X)) (wpAny_pure ?_)) | (refine wpAny_bind (wpAny_pure ?_))
  first | (rw [if_pos rfl]) | (simp only [if_true]) | dsimp only
  refine wpAny_bind (wpAny_holding ?_)
  unfold raisedFor
  first | (simp only [Bool.false_eq_true, if_false]) | (rw [if_neg (by decide)]) | skip
  first | (refine wpAny_bind (wpAny_typeOf hT4 ?_)) | (refine wpAny_bind ?_; refine wpAny_bind (wpAny_typeOf hT4 ?_))
  refine wpAny_bind (call_issubclass (issubclass_self hc hself) ?_)
  first | (refine wpAny_bind (wpAny_truthy_bool ?_)) | (refine wpAny_truthy_bool ?_) | (dsimp only [wants]; first | (refine wpAny_bind (wpAny_truthy_bool ?_)) | (refine wpAny_truthy_bool ?_))
  first | (rw [if_pos rfl]) | (simp only [if_true]) | skip
  refine wpAny_pure ?_
  unfold setFlight raiseNew
  refine wpAny_bind (wpAny_bind (wpAny_field (i := 1) (x := Value.none) g4 d4 rfl ?_))
  rw [if_neg (by decide)]
  refine wpAny_pure (wpAny_bind (wpAny_handled ?_))
  rw [hh]
  dsimp only
  have hne2 : (Value.ref e != Value.ref e2) = true := by simp [hne]
  rw [if_pos hne2]
  refine wpAny_bind (wpAny_holding (run_unchain (ob := ob) (vs := excF t0 tb .none ca b) (((k4 e hne).trans (k3 e hne)).trans heh) hd rfl ?_))
  show wpAny (model prog w) A (setField (.ref e2) 2 (.ref e) >>= fun _ => throw (Value.ref e2)) _ _ _
  refine wpAny_bind (wpAny_setField g4 d4 (show 2 < 6 by decide) ?_)
  have d5 := Obj.data_mapFields d4 (·.setIfInBounds 2 (Value.ref e))
  have g5 := Heap.get?_update_self (Obj.mapFields (·.setIfInBounds 2 (Value.ref e))) g4 (Obj.isFreed_of_fields d5)
  have k5 : ∀ b, b ≠ e2 → (h4.update e2 (Obj.mapFields (·.setIfInBounds 2 (Value.ref e)))).get? b = h4.get? b := fun b hb => Heap.get?_update_other _ _ (Ne.symm hb)
  have c5 : (Obj.mapFields (·.setIfInBounds 2 (Value.ref e)) ob4).cls = .type X := (Obj.cls_mapFields _ _).trans c4
  refine wpAny_throw (h _ e2 _ t hnx.new (fun b o hb => ?_) g5 c5 (by rw [d5]; rfl))
  have hbe : b ≠ e2 := fun q => by have := hnx.new; rw [← q, hb] at this; cases this
  exact (((k5 b hbe).trans (k4 b hbe)).trans (k3 b hbe)).trans (hnx.keeps b o hb)
end

end
section
open PySem PySem.W PyProof.Rows PySem.Spec PySem.Calls PyProof.V
set_option maxRecDepth 100000
section
variable {M : Model} {A : Around} {E : Value → Shared → Prop} {s : Shared}
theorem flight_on {base : Heap} {l : List Env} {e L : Addr} {cls a0 fl : Value} {Q : Unit → Shared → Prop} (hkb : base.StaysIn s.heap) (hen : base.get? e = none) (hl : s.heap.FunFrames base l) (ht : s.heap.TracedAtW base e cls a0 fl)
    (hQ : ∀ h', Heap.HeldW base l e cls a0 L h' → (∀ b o, s.heap.get? b = some o → (∀ vs, o.data ≠ .fields vs) → h'.get? b = some o) → Q () { s with heap := h' }) : wpAny M A (setFlight (.ref e) (some L)) Q E s := by
  obtain ⟨oe, vs, T, oT, ts, he, hcls, hd, h1, hnT, hTe, hT, hdT, h3⟩ := ht
  have hsz3 : 3 < ts.size := (Array.getElem?_eq_some_iff.mp h3).1
  have other : ∀ b, b ≠ T → (s.heap.update T (Obj.mapFields (·.setIfInBounds 3 ((some L : Option Addr).elim Value.none fun f => rawInt f)))).get? b = s.heap.get? b :=
    fun b hb => Heap.get?_update_other _ _ (Ne.symm hb)
  have noRecord : ∀ b o, s.heap.get? b = some o → (∀ vs, o.data ≠ .fields vs) → b ≠ T := fun b o hb hnf q => by
    rw [q, hT] at hb; injection hb with hb; subst hb; exact hnf ts hdT
  unfold setFlight
  refine wpAny_bind (wpAny_field he hd h1 ?_)
  rw [if_pos (show (Value.ref T != Value.none) = true from by simp)]
  refine wpAny_setField hT hdT hsz3 (hQ _ ⟨fun b o hbo => (other b fun q => by rw [q, hnT] at hbo; cases hbo).trans (hkb b o hbo), hen,
    hl.of_keeps fun b o hb hnf => ⟨o, (other b (noRecord b o hb hnf)).trans hb, rfl⟩, ?_⟩ (fun b o hb hnf => (other b (noRecord b o hb hnf)).trans hb))
  exact ⟨oe, vs, T, _, _, (other e (Ne.symm hTe)).trans he, hcls, hd, h1, hnT, hTe, Heap.get?_update_self _ hT (Obj.isFreed_of_fields (Obj.data_mapFields hdT _)), Obj.data_mapFields hdT _, by simp [hsz3]⟩
theorem freed_dict {o : Obj} {es : Array DictEntry} {ep : Nat} (h : o.data = .dict es ep) : o.isFreed = false := by
  obtain ⟨c, d, da, sl⟩ := o
  dsimp only at h
  subst h
  rfl
theorem tb_there {base h : Heap} {e : Addr} {cls a0 fl : Value} (ht : h.TracedAtW base e cls a0 fl) : ∃ oe vs T, h.get? e = some oe ∧ oe.data = .fields vs ∧ vs[1]? = some (.ref T) := by
  obtain ⟨oe, vs, T, oT, ts, he, hcls, hd, h1, _⟩ := ht
  exact ⟨oe, vs, T, he, hd, h1⟩
theorem frames_set {base h h' : Heap} {L : Addr} (hs : ∀ b, b ≠ L → h'.get? b = h.get? b) (hL : ∃ o, h'.get? L = some o ∧ ∀ vs, o.data ≠ .fields vs) : ∀ {l : List Env}, h.FunFrames base l → h'.FunFrames base l
  | [], _ => trivial
  | env :: _, ⟨hk, ⟨L1, o, hf, hn, ho, hd⟩, hr⟩ => by
    refine ⟨hk, ?_, frames_set hs hL hr⟩
    by_cases q : L1 = L
    · obtain ⟨o', ho', hd'⟩ := hL
      exact ⟨L1, o', hf, hn, by rw [q]; exact ho', hd'⟩
    · exact ⟨L1, o, hf, hn, (hs L1 q).trans ho, hd⟩
end
section
variable {prog : Program} {w : World} {A₀ : Around} {E : Value → Shared → Prop} {s' : Shared} {base g h : Heap} {outer : List Env} {L a e e2 : Addr} {m : Str → Option Value} {name : Str} {scope : Scope} {cd : Value}
  {n : Str} {pos : Pos} {news : List (Addr × Obj)} {X : String} {ob2 : Obj} {t cx ca : Value} {b2 : Bool} {hv : Option Value}
/-- the suite of `except .. as n` raised anew: the name goes, the exception flies on -/
theorem suite_raised (K : Below A₀ base outer g) (F : Fr g L h m) (N : News g L h news) (hnew : h.get? e2 = none) (hkeep : ∀ b o, h.get? b = some o → s'.heap.get? b = some o)
    (h2 : s'.heap.get? e2 = some ob2) (hc : ob2.cls = .type X) (hd : ob2.data = .fields (excF t .none cx ca b2))
    (k : ∀ G m' h' tk, RaisedHN base G (envOf name scope L a cd :: outer) L e2 (.type X) news h' → Fr g L G m' → G.UpToSlots h' → E (.ref e2) { s' with heap := h', toks := tk })
    (hk : scope.kind = .function := by rfl) (hlo : (envOf name scope L a cd).kindOf n = some .local := by rfl) :
    AsSuiteRaised (model prog w) ((A₀.deeper (envOf name scope L a cd)).mark hv) (envOf name scope L a cd) n pos
      (notedBy (model prog w) ((A₀.deeper (envOf name scope L a cd)).mark hv) (envOf name scope L a cd) (cameBackBy (model prog w) (A₀.deeper (envOf name scope L a cd)) (envOf name scope L a cd) E)) (.ref e2) s' := by
  have K' := K.push (name := name) (a := a) (cd := cd) F hk
  have hin : ∀ env ∈ (envOf name scope L a cd :: outer), ∀ b, env.frame = some b → b ∈ (envOf name scope L a cd :: outer).filterMap (·.frame) := fun env he b hb => List.mem_filterMap.mpr ⟨env, he, hb⟩
  generalize hB : hideAll h ((envOf name scope L a cd :: outer).filterMap (·.frame)) = B
  have hBG : ∀ b o, h.get? b = some o → b ∉ (envOf name scope L a cd :: outer).filterMap (·.frame) → B.get? b = some o := fun b o q nm => by rw [← hB]; exact hideAll_get _ q nm
  have hBof : ∀ b o, B.get? b = some o → h.get? b = some o := fun b o q => by rw [← hB] at q; exact of_hideAll _ q
  have hBL : B.get? L = none := by rw [← hB]; exact hideAll_none _ (hin _ (.head _) L rfl)
  have hen : B.get? e2 = none := by
    cases q : B.get? e2 with
    | none => rfl
    | some o => have := hBof _ _ q; rw [hnew] at this; cases this
  have stB : base.StaysIn B := fun b o q => hBG b o (K'.stays b o q) fun hm => by
    rw [(K'.frames.mem hm).1] at q; cases q
  have hNB : ∀ q ∈ news, B.get? q.1 = some q.2 := fun q hq => hBG _ _ (N q hq).1 fun hm => by
    rcases kts_mem hm with z | z
    · exact (N q hq).2.1 z
    · obtain ⟨env, he', hf⟩ := List.mem_filterMap.mp z
      obtain ⟨o, ho, _⟩ := (K.frames.mem (List.mem_filterMap.mpr ⟨env, he', hf⟩)).2
      rw [(N q hq).2.2] at ho; cases ho
  have hLe : e2 ≠ L := fun q => by
    obtain ⟨oL, _, _, ho, _⟩ := F.ns
    rw [q, ho] at hnew; cases hnew
  show wpAny _ _ (noteFrame _ _) _ _ _
  refine note_first (base := B) (t := t) (outer := outer) (L := L) (Around.frames_deeper K.stack) (by rw [← hB]; exact (funFrames_hide K'.frames hin).of_keeps fun b o hb _ => ⟨o, hkeep b o hb, rfl⟩) rfl h2 (fun b o hb => hkeep b o (hBof _ _ hb)) hen hd
    fun h₄ T ob hheld₄ hsm₄ hob hobc hobd _ => ?_
  have F₄ : ∃ m4, h₄.Ns L m4 := ⟨m, hsm₄.ns ((Heap.UpToSlots.of_keeps hkeep).ns F.ns)⟩
  obtain ⟨m4, F₄⟩ := F₄
  refine wpAny_nameGoes_keeps hlo F₄ (by show (scope.kind == .class || (scope.kind == .module && L != mainGlobals)) = false; rw [hk]; rfl) fun h₅ v hn₅ hs₅ => ?_
  obtain ⟨q1, q2, q3, q4⟩ := hheld₄
  obtain ⟨oL4, esL4, epL4, hoL4, hdL4, _⟩ := id F₄
  obtain ⟨oL5, esL5, epL5, hoL5, hdL5, hkL5, hfL5⟩ := id hn₅
  have nfL5 : ∀ vs, oL5.data ≠ .fields vs := fun vs q => by rw [hdL5] at q; cases q
  have p1 : B.StaysIn h₅ := fun b o hb => (hs₅.2 b fun q => by rw [show b = L from q, hBL] at hb; cases hb).trans (q1 b o hb)
  have p3 : h₅.FunFrames B (envOf name scope L a cd :: outer) := frames_set (h := h₄) hs₅.2 ⟨oL5, hoL5, nfL5⟩ q3
  have p4 : h₅.TracedAtW B e2 ob2.cls t (rawInt L) := by
    obtain ⟨oe, vs, T', oT, ts, he, hcls, hd', h1, hnT, hTe, hT, hdT, h3⟩ := q4
    have hTL : T' ≠ L := fun q => by rw [q, hoL4] at hT; injection hT with hT; rw [hT] at hdL4; rw [hdL4] at hdT; cases hdT
    exact ⟨oe, vs, T', oT, ts, (hs₅.2 e2 hLe).trans he, hcls, hd', h1, hnT, hTe, (hs₅.2 T' hTL).trans hT, hdT, h3⟩
  unfold PySem.passOn
  obtain ⟨oe5, vs5, T5, he5, hd5, h15⟩ := tb_there p4
  refine wpAny_bind (wpAny_field he5 hd5 h15 ?_)
  rw [if_neg (show ¬ ((Value.ref T5 == Value.none) = true) from by simp)]
  have fin : ∀ h₆ tk, Heap.HeldW B (envOf name scope L a cd :: outer) e2 ob2.cls t L h₆ → (∀ b o, h₅.get? b = some o → (∀ vs, o.data ≠ .fields vs) → h₆.get? b = some o) →
      E (.ref e2) { s' with heap := h₆, toks := tk } := fun h₆ tk hh keep₆ => by
    refine k (hideAll (h.update L (fun _ => oL5)) (news.map (·.1))) (fun x => if x = n then v else m4 x) h₆ tk ⟨B, t, stB, fun b o hb nm => ?_, fun q hq => ⟨hNB q hq, hideAll_none _ (List.mem_map_of_mem hq), fresh_of_stays K.stays (N q hq).2.2⟩, hc ▸ hh⟩ ⟨?_, fun b o hb => ?_, F.above⟩ fun b o hb hnf => ?_
    · have hb' := of_hideAll _ hb
      have hbL : b ≠ L := fun q => nm (q ▸ hin _ (.head _) L rfl)
      rw [Heap.get?_update_other _ _ (Ne.symm hbL)] at hb'
      exact hBG b o hb' nm
    · have hLn : L ∉ news.map (·.1) := fun hm => by
        obtain ⟨q, hq, hqe⟩ := List.mem_map.mp hm
        exact (N q hq).2.1 hqe
      obtain ⟨oL, _, _, hoL, _⟩ := F.ns
      exact ⟨oL5, esL5, epL5, hideAll_get _ (Heap.get?_update_self (fun _ => oL5) hoL (freed_dict hdL5)) hLn, hdL5, hkL5, hfL5⟩
    · have hbL : b ≠ L := fun q => by rw [q, kts_self F] at hb; cases hb
      refine hideAll_get _ ((Heap.get?_update_other _ _ (Ne.symm hbL)).trans (F.keep b o hb)) fun hm => ?_
      obtain ⟨q, hq, hqe⟩ := List.mem_map.mp hm
      have := (N q hq).2.2
      rw [hqe, hb] at this; cases this
    · have hb' := of_hideAll _ hb
      by_cases q : b = L
      · obtain ⟨oL, _, _, hoL, _⟩ := F.ns
        have hb5 : o = oL5 := by
          rw [q, Heap.get?_update_self (fun _ => oL5) hoL (freed_dict hdL5)] at hb'
          exact (Option.some.inj hb').symm
        rw [hb5, q]
        exact ⟨oL5.slots, keep₆ L oL5 hoL5 nfL5⟩
      · rw [Heap.get?_update_other _ _ (Ne.symm q)] at hb'
        obtain ⟨sl, hsl⟩ := hsm₄ b o (hkeep b o hb') hnf
        exact ⟨sl, keep₆ b _ ((hs₅.2 b q).trans hsl) hnf⟩
  refine wpAny_bind ?_
  show wpAny _ _ (setFlight (.ref e2) (some L)) _ _ _
  refine flight_on (base := B) (l := envOf name scope L a cd :: outer) (L := L) p1 hen p3 p4 fun h₆ hh₆ keep₆ => wpAny_throw ?_
  show wpAny _ _ (noteFrame (.ref e2) (envOf name scope L a cd)) _ _ _
  refine wpAny_noteFrame_againW (L := L) rfl hh₆.2.2.2 ?_
  show wpAny _ _ (do
    if (← field (.ref e2) 1) == .none then unsupported "frame.own-activation:exception-without-traceback"
    setFlight (.ref e2) (some L)) _ _ _
  obtain ⟨oe6, vs6, T6, he6, hd6, h16⟩ := tb_there hh₆.2.2.2
  refine wpAny_bind (wpAny_field he6 hd6 h16 ?_)
  rw [if_neg (show ¬ ((Value.ref T6 == Value.none) = true) from by simp)]
  exact flight_on (base := B) (l := envOf name scope L a cd :: outer) (L := L) hh₆.1 hh₆.2.1 hh₆.2.2.1 hh₆.2.2.2 fun h₇ hh₇ keep₇ => fin h₇ _ hh₇ fun b o hb hnf => keep₇ b o (keep₆ b o hb hnf) hnf
end

end
section
open PySem PySem.W PyProof.Rows PySem.Spec PySem.Calls PyProof.V
set_option maxRecDepth 100000
section
variable {prog : Program} {w : World} {M : Model} {A₀ : Around} {E : Value → Shared → Prop} {s' : Shared} {base g g₀ go G : Heap} {outer : List Env} {L a e : Addr} {m : Str → Option Value} {name : Str} {scope : Scope} {cd cls : Value}
  {b₀ : Stmt} {suite : List Stmt} {pos np : Pos} {rest : List ExceptHandler} {Q : Flow → Shared → Prop} {Q1 : Unit → Shared → Prop} {news : List (Addr × Obj)} {KF : Frag}
  {p : Program} {loose : List Str} {mean : ExcName → Option Value} {mg mb : Str → Option Value} {x : Str} {X T' : String}
/-- the frame behind a callee's frame whose ground an exception turned -/
theorem turned (K : Below A₀ base outer g) (F : Fr g L go m) (T : KtsTurn ((envOf name scope L a cd :: outer).filterMap (·.frame)) go G) :
    ∃ g', KtsTurn (outer.filterMap (·.frame)) g g' ∧ Fr g' L G m ∧ Below A₀ base outer g' :=
  kts_ground (name := name) (scope := scope) (a := a) (cd := cd) (B := hideAll go ((envOf name scope L a cd :: outer).filterMap (·.frame))) K F (fun b o q nm => hideAll_get _ q nm)
    (fun b o q => by
      have h1 := of_hideAll _ q
      refine T.other b o h1 fun hm => ?_
      rw [hideAll_none _ hm] at q; cases q)
    fun b o q _ => T.up q
theorem leave_turned (K : Below A₀ base outer g) (F : Fr g L go m) (T : KtsTurn ((envOf name scope L a cd :: outer).filterMap (·.frame)) go G) (R : RaisedSN base G (envOf name scope L a cd :: outer) e cls news s'.heap) (hsm : G.UpToSlots s'.heap)
    (hQ : ∀ g' h', KtsTurn (outer.filterMap (·.frame)) g g' → RaisedSN base g' outer e cls news h' → g'.UpToSlots h' → Q1 () { s' with heap := h' }) :
    wpAny M (A₀.deeper (envOf name scope L a cd)) (leaving (envOf name scope L a cd) (.ref e)) Q1 E s' := by
  obtain ⟨g', T', F', K'⟩ := turned (name := name) (scope := scope) (a := a) (cd := cd) K F T
  exact leave_onSN K' F' R hsm fun h' R' _ U' => hQ g' h' T' R' U'
theorem caught_turned (K : Below A₀ base outer g) (F : Fr g L go m) (T : KtsTurn ((envOf name scope L a cd :: outer).filterMap (·.frame)) go G) (R : RaisedSN base G (envOf name scope L a cd :: outer) e (.type X) news s'.heap) (hsm : G.UpToSlots s'.heap) (XB : KF.In base) (TB : Top p loose mean mg mb base)
    (D : KtsDicts (outer.filterMap (·.frame)) g) (T0 : KtsTurn (outer.filterMap (·.frame)) g₀ g)
    (ex : nsIn KF mainGlobals x = some none) (hv : bootBuiltins x = some (.type T')) (hn' : x ≠ "__name__")
    (hexc : isSubtype (.type T') (.type "BaseException") = pure true) (hnt : isSubtype (.type ((Manifest.find? T').elim "type" fun y => y.metatype)) (.type "tuple") = pure false) (hsub : isSubtype (.type X) (.type T') = pure true)
    (k : ∀ h' g', KtsTurn (outer.filterMap (·.frame)) g₀ g' → Fr g' L h' m → News g' L h' news → Below A₀ base outer g' → KF.In g' → Top p loose mean mg mb g' → KtsDicts (outer.filterMap (·.frame)) g' →
      wpAny (model prog w) ((A₀.deeper (envOf name scope L a cd)).mark (some (.ref e))) (execs (b₀ :: suite) (envOf name scope L a cd)) Q E { s' with heap := h' })
    (hk : scope.kind = .function := by rfl) (hx : (envOf name scope L a cd).kindOf x = some .globalImplicit := by rfl) (hd : (x == ("__debug__" : Str)) = false := by decide)
    (hE : PassesOwnAt (model prog w) ((A₀.deeper (envOf name scope L a cd)).mark (some (.ref e))) (A₀.deeper (envOf name scope L a cd)) (envOf name scope L a cd) E := by passes_own) :
    wpAny (model prog w) (A₀.deeper (envOf name scope L a cd)) (noteFrame (.ref e) (envOf name scope L a cd))
      (fun _ s₂ => wpAny (model prog w) (A₀.deeper (envOf name scope L a cd)) (setFlight (.ref e) none) (fun _ s₃ =>
        wpAny (model prog w) (A₀.deeper (envOf name scope L a cd)) (handleBy (.ref e) (envOf name scope L a cd) (.ExceptHandler (some (.Name x np)) none (b₀ :: suite) pos :: rest)) Q E s₃) E s₂) E s' := by
  obtain ⟨g', T₁, F', K'⟩ := turned (name := name) (scope := scope) (a := a) (cd := cd) K F T
  exact caught_SN0 R F' K' hsm XB TB (D.turn T₁) (T0.trans T₁) ex hv hn' hexc hnt hsub k hk hx hd hE
end

end
section
open PySem PySem.W PyProof.Rows PySem.Spec PySem.Calls

/-- the bool that the comparison of a place hands back, by whichever way -/
structure JoinB (line col : Nat) (b : Bool) : Prop where
def JoinBEnd (b : Bool) (h₀ : Heap) (L : Addr) (m : Str → Option Value) (news : List (Addr × Obj)) (s : Shared) (v : Value) (s' : Shared) : Prop :=
  ∃ (b' : Bool) (h' : Heap) (tk' : Nat), v = .bool b' ∧ s' = { s with heap := h', toks := tk' } ∧ Fr h₀ L h' m ∧ News h₀ L h' news ∧ b' = b
section
variable {M : Model} {A : Around} {E : Value → Shared → Prop} {s : Shared} {env : Env} {h₀ : Heap} {L : Addr} {m : Str → Option Value} {news : List (Addr × Obj)} {b : Bool} {Q : Value → Shared → Prop}
theorem join_cmp {e : Expr} {os : List CmpOp} {es : List Expr} {l c el ec : Nat} (_hj : JoinB l c b) (_F : Fr h₀ L s.heap m) (_N : News h₀ L s.heap news)
    (hc : wpAny M A (eval (.Compare e os es ⟨l, c, el, ec⟩) env) (JoinBEnd b h₀ L m news s) E s)
    (h : ∀ h' tk', Fr h₀ L h' m → News h₀ L h' news → Q (.bool b) { s with heap := h', toks := tk' }) : wpAny M A (eval (.Compare e os es ⟨l, c, el, ec⟩) env) Q E s := by
  refine wpAny_mono hc (fun v s' q => ?_) fun _ _ y => y
  obtain ⟨b', h', tk', rfl, rfl, F', N', rfl⟩ := q
  exact h h' tk' F' N'
theorem join_bool {b' : Bool} {h' : Heap} {tk' : Nat} (F : Fr h₀ L h' m) (N : News h₀ L h' news) (e : b' = b) : JoinBEnd b h₀ L m news s (.bool b') { s with heap := h', toks := tk' } :=
  ⟨b', h', tk', rfl, rfl, F, N, e⟩
end
set_option maxRecDepth 100000 in
/-- the message of the refused year (its text is of no account behind it) -/
theorem w_fmt_n {prog : Program} {w : World} {A : Around} {E : Value → Shared → Prop} {s : Shared} {t u : Tok} {Q : Value → Shared → Prop} (h : ∀ x t' k, Q (.str x t') { s with toks := k }) :
    wpAny (model prog w) A (call (Value.builtin "str.format") [Value.str (Str.ofString "Year out of range for Armenian calendar ({} method)") t, Value.str (Str.ofString "moveable") u]) Q E s := by
  refine' KFm.call_k ?kfmF ?kfmg ?kfmm ?_
  case kfmF => kfm_eq
  case kfmg => kfm_args
  case kfmm => k_dflt kfm_run
  exact fun _ _ => h _ _ _
set_option maxRecDepth 100000 in
/-- the message of the refused year (its text is of no account behind it) -/
theorem w_fmt_s {prog : Program} {w : World} {A : Around} {E : Value → Shared → Prop} {s : Shared} {t u : Tok} {Q : Value → Shared → Prop} (h : ∀ x t' k, Q (.str x t') { s with toks := k }) :
    wpAny (model prog w) A (call (Value.builtin "str.format") [Value.str (Str.ofString "Year out of range for Armenian calendar ({} method)") t, Value.str (Str.ofString "sarkawag") u]) Q E s := by
  refine' KFm.call_k ?kfmF ?kfmg ?kfmm ?_
  case kfmF => kfm_eq
  case kfmg => kfm_args
  case kfmm => k_dflt kfm_run
  exact fun _ _ => h _ _ _

end
section
open PySem PySem.W PyProof.Rows PySem.Spec PySem.Calls

section
variable {prog : Program} {w : World} {A : Around} {E : Value → Shared → Prop} {s : Shared} {h₀ : Heap} {L a : Addr} {news : List (Addr × Obj)} {Q : Value → Shared → Prop} {x y z : Int} {t u v q : Tok} {n : Str} {p1 p2 : Pos} {kk : Nat} {c : Const}
/-- the items of a tuple of three, by a constant -/
theorem w_item_T0 (N : News h₀ L s.heap news) (hm : (a, tup3 x t y u z v) ∈ news) (h : Q (.int x t) s) :
    wpAny (model prog w) A (subscriptTail (.Name n p1) (.Constant c kk p2) (.ref a) (.int 0 q)) Q E s :=
  item_tupleT (News.isTup N hm) (by decide) (by decide) (j := 0) rfl rfl h (by with_unfolding_all rfl)
theorem w_item_T1 (N : News h₀ L s.heap news) (hm : (a, tup3 x t y u z v) ∈ news) (h : Q (.int y u) s) :
    wpAny (model prog w) A (subscriptTail (.Name n p1) (.Constant c kk p2) (.ref a) (.int 1 q)) Q E s :=
  item_tupleT (News.isTup N hm) (by decide) (by decide) (j := 1) rfl rfl h (by with_unfolding_all rfl)
theorem w_item_T2 (N : News h₀ L s.heap news) (hm : (a, tup3 x t y u z v) ∈ news) (h : Q (.int z v) s) :
    wpAny (model prog w) A (subscriptTail (.Name n p1) (.Constant c kk p2) (.ref a) (.int 2 q)) Q E s :=
  item_tupleT (News.isTup N hm) (by decide) (by decide) (j := 2) rfl rfl h (by with_unfolding_all rfl)
end
section
variable {dp un : Nat} {gd : Option (List Code)} {cn : Str} {cs : Scope} {L a : Addr} {ccd : Value} {cl : List (Str × Addr)} {outer : List Env} {k n : Nat}
theorem room_dp (h : dp + n < recursionLimit) (hk : 1 + k ≤ n) : (ktrTop dp un gd cn cs L a ccd cl outer).depth + 1 + k < recursionLimit := by
  have e : (ktrTop dp un gd cn cs L a ccd cl outer).depth = dp := rfl
  omega
theorem room_un (h : un + 8 * n < cLine) (hk : 3 + 8 * k ≤ 8 * n) : (ktrTop dp un gd cn cs L a ccd cl outer).units + 3 + 8 * k < cLine := by
  have e : (ktrTop dp un gd cn cs L a ccd cl outer).units = un := rfl
  omega
end
/-- a local name's value is sought in the frame as it is written; the kernel proves it -/
def Guess (_ : Option Value) (_ : Value) : Prop := True
theorem guess_hit_if {x : Str} {v : Value} {r : Option Value} {i : Decidable (x = x)} : Guess (@ite _ (x = x) i (some v) r) v := True.intro
theorem guess_miss_if {x y : Str} {u v : Value} {r : Option Value} {i : Decidable (x = y)} (_ : Guess r v) : Guess (@ite _ (x = y) i (some u) r) v := True.intro
theorem guess_hit_l {x : Str} {v : Value} {r : List (Str × Value)} : Guess (List.lookup x ((x, v) :: r)) v := True.intro
theorem guess_miss_l {x y : Str} {u v : Value} {r : List (Str × Value)} (_ : Guess (List.lookup x r) v) : Guess (List.lookup x ((y, u) :: r)) v := True.intro
theorem look_of {a : Option Value} {v : Value} (_ : Guess a v) (e : a = some v) : a = some v := e
theorem Fr_as {h₀ h : Heap} {L : Addr} {m m' : Str → Option Value} (F : Fr h₀ L h m) (e : m = m') : Fr h₀ L h m' := e ▸ F

end
section
open PySem PySem.W PyProof.Rows PySem.Spec PySem.Calls
theorem init_nm : (fun (_ : OpenLaw) (_ : Params → Frag) => True) PySem.Challenge.rw_ad5034_01 hd.heap_39 := by
  k_fill
  trivial
theorem gn_ceil (P : Params) : nsIn (hd.heap_39 P) mainGlobals (Str.ofString "ceil") = some (some (.builtin "math.ceil")) := by kernel_rfl
theorem gn_floor (P : Params) : nsIn (hd.heap_39 P) mainGlobals (Str.ofString "floor") = some (some (.builtin "math.floor")) := by kernel_rfl
theorem gn_trunc (P : Params) : nsIn (hd.heap_39 P) mainGlobals (Str.ofString "trunc") = some (some (.builtin "math.trunc")) := by kernel_rfl
theorem gn_EPOCH_gregorian (P : Params) : nsIn (hd.heap_39 P) mainGlobals (Str.ofString "EPOCH_gregorian") = some (some (.float 4700144277945057280 384)) := by kernel_rfl
theorem gn_INTERCALATION_CYCLE_YEARS (P : Params) : nsIn (hd.heap_39 P) mainGlobals (Str.ofString "INTERCALATION_CYCLE_YEARS") = some (some (.int 400 386)) := by kernel_rfl
theorem gn_INTERCALATION_CYCLE_DAYS (P : Params) : nsIn (hd.heap_39 P) mainGlobals (Str.ofString "INTERCALATION_CYCLE_DAYS") = some (some (.int 146097 388)) := by kernel_rfl
theorem gn_LEAP_SUPPRESSION_YEARS (P : Params) : nsIn (hd.heap_39 P) mainGlobals (Str.ofString "LEAP_SUPPRESSION_YEARS") = some (some (.int 100 390)) := by kernel_rfl
theorem gn_LEAP_SUPPRESSION_DAYS (P : Params) : nsIn (hd.heap_39 P) mainGlobals (Str.ofString "LEAP_SUPPRESSION_DAYS") = some (some (.int 36524 392)) := by kernel_rfl
theorem gn_LEAP_CYCLE_YEARS (P : Params) : nsIn (hd.heap_39 P) mainGlobals (Str.ofString "LEAP_CYCLE_YEARS") = some (some (.int 4 394)) := by kernel_rfl
theorem gn_LEAP_CYCLE_DAYS (P : Params) : nsIn (hd.heap_39 P) mainGlobals (Str.ofString "LEAP_CYCLE_DAYS") = some (some (.int 1461 396)) := by kernel_rfl
theorem gn_YEAR_DAYS (P : Params) : nsIn (hd.heap_39 P) mainGlobals (Str.ofString "YEAR_DAYS") = some (some (.int 365 398)) := by kernel_rfl
theorem gn_HAVE_30_DAYS_gregorian (P : Params) : nsIn (hd.heap_39 P) mainGlobals (Str.ofString "HAVE_30_DAYS_gregorian") = some (some (.ref 43)) := by kernel_rfl
theorem gn_isleap (P : Params) : nsIn (hd.heap_39 P) mainGlobals (Str.ofString "isleap") = some (some (.ref 50)) := by kernel_rfl
theorem gn_legal_date_gregorian (P : Params) : nsIn (hd.heap_39 P) mainGlobals (Str.ofString "legal_date_gregorian") = some (some (.ref 57)) := by kernel_rfl
theorem gn_to_jd_gregorian (P : Params) : nsIn (hd.heap_39 P) mainGlobals (Str.ofString "to_jd_gregorian") = some (some (.ref 64)) := by kernel_rfl
theorem gn_from_jd_gregorian (P : Params) : nsIn (hd.heap_39 P) mainGlobals (Str.ofString "from_jd_gregorian") = some (some (.ref 71)) := by kernel_rfl
theorem gn_EPOCH_islamic (P : Params) : nsIn (hd.heap_39 P) mainGlobals (Str.ofString "EPOCH_islamic") = some (some (.float 4701119295650791424 463)) := by kernel_rfl
theorem gn_HAS_30_DAYS (P : Params) : nsIn (hd.heap_39 P) mainGlobals (Str.ofString "HAS_30_DAYS") = some (some (.ref 72)) := by kernel_rfl
theorem gn_leap_islamic (P : Params) : nsIn (hd.heap_39 P) mainGlobals (Str.ofString "leap_islamic") = some (some (.ref 79)) := by kernel_rfl
theorem gn_to_jd_islamic (P : Params) : nsIn (hd.heap_39 P) mainGlobals (Str.ofString "to_jd_islamic") = some (some (.ref 86)) := by kernel_rfl
theorem gn_from_jd_islamic (P : Params) : nsIn (hd.heap_39 P) mainGlobals (Str.ofString "from_jd_islamic") = some (some (.ref 93)) := by kernel_rfl
theorem gn_from_gregorian_islamic (P : Params) : nsIn (hd.heap_39 P) mainGlobals (Str.ofString "from_gregorian_islamic") = some (some (.ref 100)) := by kernel_rfl
theorem gn_to_gregorian_islamic (P : Params) : nsIn (hd.heap_39 P) mainGlobals (Str.ofString "to_gregorian_islamic") = some (some (.ref 107)) := by kernel_rfl
theorem gn_month_length_islamic (P : Params) : nsIn (hd.heap_39 P) mainGlobals (Str.ofString "month_length_islamic") = some (some (.ref 114)) := by kernel_rfl
theorem gn_EPOCH_coptic (P : Params) : nsIn (hd.heap_39 P) mainGlobals (Str.ofString "EPOCH_coptic") = some (some (.float 4700589253736792064 532)) := by kernel_rfl
theorem gn_is_leap (P : Params) : nsIn (hd.heap_39 P) mainGlobals (Str.ofString "is_leap") = some (some (.ref 121)) := by kernel_rfl
theorem gn_to_jd_coptic (P : Params) : nsIn (hd.heap_39 P) mainGlobals (Str.ofString "to_jd_coptic") = some (some (.ref 128)) := by kernel_rfl
theorem gn_from_jd_coptic (P : Params) : nsIn (hd.heap_39 P) mainGlobals (Str.ofString "from_jd_coptic") = some (some (.ref 135)) := by kernel_rfl
theorem gn_to_gregorian_coptic (P : Params) : nsIn (hd.heap_39 P) mainGlobals (Str.ofString "to_gregorian_coptic") = some (some (.ref 142)) := by kernel_rfl
theorem gn_from_gregorian_coptic (P : Params) : nsIn (hd.heap_39 P) mainGlobals (Str.ofString "from_gregorian_coptic") = some (some (.ref 149)) := by kernel_rfl
theorem gn_month_length_coptic (P : Params) : nsIn (hd.heap_39 P) mainGlobals (Str.ofString "month_length_coptic") = some (some (.ref 156)) := by kernel_rfl
theorem gn_HAVE_30_DAYS_julian (P : Params) : nsIn (hd.heap_39 P) mainGlobals (Str.ofString "HAVE_30_DAYS_julian") = some (some (.ref 157)) := by kernel_rfl
theorem gn_leap_julian (P : Params) : nsIn (hd.heap_39 P) mainGlobals (Str.ofString "leap_julian") = some (some (.ref 164)) := by kernel_rfl
theorem gn_month_length_julian (P : Params) : nsIn (hd.heap_39 P) mainGlobals (Str.ofString "month_length_julian") = some (some (.ref 171)) := by kernel_rfl
theorem gn_legal_date_julian (P : Params) : nsIn (hd.heap_39 P) mainGlobals (Str.ofString "legal_date_julian") = some (some (.ref 178)) := by kernel_rfl
theorem gn_from_jd_julian (P : Params) : nsIn (hd.heap_39 P) mainGlobals (Str.ofString "from_jd_julian") = some (some (.ref 185)) := by kernel_rfl
theorem gn_to_jd_julian (P : Params) : nsIn (hd.heap_39 P) mainGlobals (Str.ofString "to_jd_julian") = some (some (.ref 192)) := by kernel_rfl
theorem gn_from_gregorian_julian (P : Params) : nsIn (hd.heap_39 P) mainGlobals (Str.ofString "from_gregorian_julian") = some (some (.ref 199)) := by kernel_rfl
theorem gn_to_gregorian_julian (P : Params) : nsIn (hd.heap_39 P) mainGlobals (Str.ofString "to_gregorian_julian") = some (some (.ref 206)) := by kernel_rfl
theorem gn_EPOCH_armenian (P : Params) : nsIn (hd.heap_39 P) mainGlobals (Str.ofString "EPOCH_armenian") = some (some (.float 4701007892789067776 676)) := by kernel_rfl
theorem gn_EPOCH_SARKAWAG (P : Params) : nsIn (hd.heap_39 P) mainGlobals (Str.ofString "EPOCH_SARKAWAG") = some (some (.float 4701801086275551232 678)) := by kernel_rfl
theorem gn_valid_date (P : Params) : nsIn (hd.heap_39 P) mainGlobals (Str.ofString "_valid_date") = some (some (.ref 214)) := by kernel_rfl
theorem gn_leap_armenian (P : Params) : nsIn (hd.heap_39 P) mainGlobals (Str.ofString "leap_armenian") = some (some (.ref 221)) := by kernel_rfl
theorem gn_to_jd_armenian (P : Params) : nsIn (hd.heap_39 P) mainGlobals (Str.ofString "to_jd_armenian") = some (some (.ref 229)) := by kernel_rfl
theorem gn_from_jd_armenian (P : Params) : nsIn (hd.heap_39 P) mainGlobals (Str.ofString "from_jd_armenian") = some (some (.ref 237)) := by kernel_rfl
theorem gn_to_julian (P : Params) : nsIn (hd.heap_39 P) mainGlobals (Str.ofString "to_julian") = some (some (.ref 245)) := by kernel_rfl
theorem gn_from_julian (P : Params) : nsIn (hd.heap_39 P) mainGlobals (Str.ofString "from_julian") = some (some (.ref 253)) := by kernel_rfl
theorem gn_to_gregorian_armenian (P : Params) : nsIn (hd.heap_39 P) mainGlobals (Str.ofString "to_gregorian_armenian") = some (some (.ref 261)) := by kernel_rfl
theorem gn_from_gregorian_armenian (P : Params) : nsIn (hd.heap_39 P) mainGlobals (Str.ofString "from_gregorian_armenian") = some (some (.ref 269)) := by kernel_rfl
theorem gn_month_length_armenian (P : Params) : nsIn (hd.heap_39 P) mainGlobals (Str.ofString "month_length_armenian") = some (some (.ref 277)) := by kernel_rfl
theorem gn_law_openings (P : Params) : nsIn (hd.heap_39 P) mainGlobals (Str.ofString "_law_openings") = some (some (.ref 278)) := by kernel_rfl
theorem gn_law_strides (P : Params) : nsIn (hd.heap_39 P) mainGlobals (Str.ofString "_law_strides") = some (some (.ref 279)) := by kernel_rfl
theorem gn_law_thirty (P : Params) : nsIn (hd.heap_39 P) mainGlobals (Str.ofString "_law_thirty") = some (some (.ref 280)) := by kernel_rfl
theorem gn_law_third (P : Params) : nsIn (hd.heap_39 P) mainGlobals (Str.ofString "_law_third") = some (some (.ref 281)) := by kernel_rfl
theorem gn_law_fourth (P : Params) : nsIn (hd.heap_39 P) mainGlobals (Str.ofString "_law_fourth") = some (some (.ref 282)) := by kernel_rfl
theorem gn_law_plain (P : Params) : nsIn (hd.heap_39 P) mainGlobals (Str.ofString "_law_plain") = some (some (.ref 283)) := by kernel_rfl
theorem gn_law_near (P : Params) : nsIn (hd.heap_39 P) mainGlobals (Str.ofString "_law_near") = some (some (.ref 290)) := by kernel_rfl
theorem gn_law_jd (P : Params) : nsIn (hd.heap_39 P) mainGlobals (Str.ofString "_law_jd") = some (some (.ref 297)) := by kernel_rfl
theorem gn_law_off (P : Params) : nsIn (hd.heap_39 P) mainGlobals (Str.ofString "_law_off") = some (some (.ref 304)) := by kernel_rfl
theorem gn_law_sizes (P : Params) : nsIn (hd.heap_39 P) mainGlobals (Str.ofString "_law_sizes") = some (some (.ref 311)) := by kernel_rfl
theorem gn_law_date (P : Params) : nsIn (hd.heap_39 P) mainGlobals (Str.ofString "_law_date") = some (some (.ref 318)) := by kernel_rfl
theorem gn_law_count (P : Params) : nsIn (hd.heap_39 P) mainGlobals (Str.ofString "_law_count") = some (some (.ref 325)) := by kernel_rfl
theorem gn_law_year (P : Params) : nsIn (hd.heap_39 P) mainGlobals (Str.ofString "_law_year") = some (some (.ref 330)) := by kernel_rfl
theorem gn_law_roman (P : Params) : nsIn (hd.heap_39 P) mainGlobals (Str.ofString "_law_roman") = some (some (.ref 337)) := by kernel_rfl
theorem gn_law_next (P : Params) : nsIn (hd.heap_39 P) mainGlobals (Str.ofString "_law_next") = some (some (.ref 344)) := by kernel_rfl
theorem gn_law_islamic (P : Params) : nsIn (hd.heap_39 P) mainGlobals (Str.ofString "_law_islamic") = some (some (.ref 351)) := by kernel_rfl
theorem gn_law_coptic (P : Params) : nsIn (hd.heap_39 P) mainGlobals (Str.ofString "_law_coptic") = some (some (.ref 358)) := by kernel_rfl
theorem gn_law_armenian (P : Params) : nsIn (hd.heap_39 P) mainGlobals (Str.ofString "_law_armenian") = some (some (.ref 365)) := by kernel_rfl
theorem gn_law_triple (P : Params) : nsIn (hd.heap_39 P) mainGlobals (Str.ofString "_law_triple") = some (some (.ref 372)) := by kernel_rfl
theorem gb_int (P : Params) : nsIn (hd.heap_39 P) mainGlobals (Str.ofString "int") = some none := by kernel_rfl
theorem bb_int : bootBuiltins (Str.ofString "int") = some (.type "int") := by boot_fast
theorem gb_min (P : Params) : nsIn (hd.heap_39 P) mainGlobals (Str.ofString "min") = some none := by kernel_rfl
theorem bb_min : bootBuiltins (Str.ofString "min") = some (.builtin "min") := by boot_fast
theorem gb_range (P : Params) : nsIn (hd.heap_39 P) mainGlobals (Str.ofString "range") = some none := by kernel_rfl
theorem bb_range : bootBuiltins (Str.ofString "range") = some (.type "range") := by boot_fast
theorem gb_len (P : Params) : nsIn (hd.heap_39 P) mainGlobals (Str.ofString "len") = some none := by kernel_rfl
theorem bb_len : bootBuiltins (Str.ofString "len") = some (.builtin "len") := by boot_fast
theorem gb_divmod (P : Params) : nsIn (hd.heap_39 P) mainGlobals (Str.ofString "divmod") = some none := by kernel_rfl
theorem bb_divmod : bootBuiltins (Str.ofString "divmod") = some (.builtin "divmod") := by boot_fast
theorem gb_sum (P : Params) : nsIn (hd.heap_39 P) mainGlobals (Str.ofString "sum") = some none := by kernel_rfl
theorem bb_sum : bootBuiltins (Str.ofString "sum") = some (.builtin "sum") := by boot_fast
theorem gb_ValueError (P : Params) : nsIn (hd.heap_39 P) mainGlobals (Str.ofString "ValueError") = some none := by kernel_rfl
theorem bb_ValueError : bootBuiltins (Str.ofString "ValueError") = some (.type "ValueError") := by boot_fast
theorem gb_AssertionError (P : Params) : nsIn (hd.heap_39 P) mainGlobals (Str.ofString "AssertionError") = some none := by kernel_rfl
theorem bb_AssertionError : bootBuiltins (Str.ofString "AssertionError") = some (.type "AssertionError") := by boot_fast

end
open PySem PySem.W PyProof.Rows PySem.Spec PySem.Calls
def Gate (p : Prop) : Prop := p
theorem gate_out {p : Prop} (h : Gate p) : p := h
theorem gate_true {p : Prop} (h : p) : Gate p = True := eq_true h
local macro_rules | `(tactic| walk_at "compareOp In int ref") => `(tactic| (k_here; k_dflt (first
  | (refine' w_in_30 ?k1 ?k2 ?k3 ?k4 ?_; (case k1 => k_asm); (case k2 => k_asm); (case k3 => k_is); (case k4 => repeat constructor))
  | (refine' w_in_odd ?k1 ?k2 ?k3 ?k4 ?_; (case k1 => k_asm); (case k2 => k_asm); (case k3 => k_is); (case k4 => repeat constructor)))))
local macro_rules | `(tactic| k_mem) => `(tactic| ((show (_ : Addr × Obj) ∈ (_ : List (Addr × Obj))); ktr_member))
local macro_rules | `(tactic| walk_at "binaryOp Add float int") => `(tactic| (k_here; (first | (with_reducible refine' w_add_fi ?x ?b1 ?b2 ?e ?_; (case x => (first | (with_reducible exact rfl) | exact lit_greg | exact lit_isl | exact lit_cop | exact lit_arm | exact lit_sar | exact lit_half | exact lit_29h | exact lit_15245)); (case b1 => (law_clear; first | omega | (simp only [gj, ij, cj, jj, aj, sj, leapS] at *; omega))); (case b2 => (law_clear; first | omega | (simp only [gj, ij, cj, jj, aj, sj, leapS] at *; omega))); (case e => (first | exact Hint.eq (by with_reducible assumption) | exact rfl))) | (with_reducible refine' w_add_raw ?b2 ?_; (case b2 => (law_clear; first | omega | (simp only [gj, ij, cj, jj, aj, sj, leapS] at *; omega))))); (try dsimp only)))
local macro_rules | `(tactic| walk_at "binaryOp Add int float") => `(tactic| (k_here; (first | (with_reducible refine' w_add_if ?x ?b1 ?b2 ?e ?_; (case x => (first | (with_reducible exact rfl) | exact lit_greg | exact lit_isl | exact lit_cop | exact lit_arm | exact lit_sar | exact lit_half | exact lit_29h | exact lit_15245)); (case b1 => (law_clear; first | omega | (simp only [gj, ij, cj, jj, aj, sj, leapS] at *; omega))); (case b2 => (law_clear; first | omega | (simp only [gj, ij, cj, jj, aj, sj, leapS] at *; omega))); (case e => (first | exact Hint.eq (by with_reducible assumption) | exact rfl)))); (try dsimp only)))
local macro_rules | `(tactic| walk_at "binaryOp Sub float int") => `(tactic| (k_here; (first | (with_reducible refine' w_sub_fi ?x ?b1 ?b2 ?e ?_; (case x => (first | (with_reducible exact rfl) | exact lit_greg | exact lit_isl | exact lit_cop | exact lit_arm | exact lit_sar | exact lit_half | exact lit_29h | exact lit_15245)); (case b1 => (law_clear; first | omega | (simp only [gj, ij, cj, jj, aj, sj, leapS] at *; omega))); (case b2 => (law_clear; first | omega | (simp only [gj, ij, cj, jj, aj, sj, leapS] at *; omega))); (case e => (first | exact Hint.eq (by with_reducible assumption) | exact rfl)))); (try dsimp only)))
local macro_rules | `(tactic| walk_at "binaryOp Sub int float") => `(tactic| (k_here; (first | (with_reducible refine' w_sub_if ?x ?b1 ?b2 ?e ?_; (case x => (first | (with_reducible exact rfl) | exact lit_greg | exact lit_isl | exact lit_cop | exact lit_arm | exact lit_sar | exact lit_half | exact lit_29h | exact lit_15245)); (case b1 => (law_clear; first | omega | (simp only [gj, ij, cj, jj, aj, sj, leapS] at *; omega))); (case b2 => (law_clear; first | omega | (simp only [gj, ij, cj, jj, aj, sj, leapS] at *; omega))); (case e => (first | exact Hint.eq (by with_reducible assumption) | exact rfl))) | (with_reducible refine' w_sub_i122 ?b2 ?_; (case b2 => (law_clear; first | omega | (simp only [gj, ij, cj, jj, aj, sj, leapS] at *; omega))))); (try dsimp only)))
local macro_rules | `(tactic| walk_at "binaryOp Sub float float") => `(tactic| (k_here; (first | (with_reducible refine' w_sub_ff ?x ?y ?b1 ?b2 ?e ?_; (case x => (first | (with_reducible exact rfl) | exact lit_greg | exact lit_isl | exact lit_cop | exact lit_arm | exact lit_sar | exact lit_half | exact lit_29h | exact lit_15245)); (case y => (first | (with_reducible exact rfl) | exact lit_greg | exact lit_isl | exact lit_cop | exact lit_arm | exact lit_sar | exact lit_half | exact lit_29h | exact lit_15245)); (case b1 => (law_clear; first | omega | (simp only [gj, ij, cj, jj, aj, sj, leapS] at *; omega))); (case b2 => (law_clear; first | omega | (simp only [gj, ij, cj, jj, aj, sj, leapS] at *; omega))); (case e => (first | exact Hint.eq (by with_reducible assumption) | exact rfl)))); (try dsimp only)))
local macro_rules | `(tactic| walk_at "inplaceOp Add float float") => `(tactic| (k_here; (first | (with_reducible refine' w_iadd_ff ?x ?y ?b1 ?b2 ?e ?_; (case x => (first | (with_reducible exact rfl) | exact lit_greg | exact lit_isl | exact lit_cop | exact lit_arm | exact lit_sar | exact lit_half | exact lit_29h | exact lit_15245)); (case y => (first | (with_reducible exact rfl) | exact lit_greg | exact lit_isl | exact lit_cop | exact lit_arm | exact lit_sar | exact lit_half | exact lit_29h | exact lit_15245)); (case b1 => (law_clear; first | omega | (simp only [gj, ij, cj, jj, aj, sj, leapS] at *; omega))); (case b2 => (law_clear; first | omega | (simp only [gj, ij, cj, jj, aj, sj, leapS] at *; omega))); (case e => (first | exact Hint.eq (by with_reducible assumption) | exact rfl)))); (try dsimp only)))
local macro_rules | `(tactic| walk_at "binaryOp Mult float int") => `(tactic| (k_here; (first | (with_reducible refine' w_mul_fi ?x ?b0 ?b1 ?b2 ?b3 ?e ?_; (case x => (first | (with_reducible exact rfl) | exact lit_greg | exact lit_isl | exact lit_cop | exact lit_arm | exact lit_sar | exact lit_half | exact lit_29h | exact lit_15245)); (case b0 => (law_clear; first | omega | (simp only [gj, ij, cj, jj, aj, sj, leapS] at *; omega))); (case b1 => (law_clear; first | omega | (simp only [gj, ij, cj, jj, aj, sj, leapS] at *; omega))); (case b2 => (law_clear; first | omega | (simp only [gj, ij, cj, jj, aj, sj, leapS] at *; omega))); (case b3 => (law_clear; first | omega | (simp only [gj, ij, cj, jj, aj, sj, leapS] at *; omega))); (case e => (first | exact Hint.eq (by with_reducible assumption) | exact rfl))) | (with_reducible refine' w_mul_fi' ?x ?b0 ?b1 ?b2 ?b3 ?e ?_; (case x => (first | (with_reducible exact rfl) | exact lit_greg | exact lit_isl | exact lit_cop | exact lit_arm | exact lit_sar | exact lit_half | exact lit_29h | exact lit_15245)); (case b0 => (law_clear; first | omega | (simp only [gj, ij, cj, jj, aj, sj, leapS] at *; omega))); (case b1 => (law_clear; first | omega | (simp only [gj, ij, cj, jj, aj, sj, leapS] at *; omega))); (case b2 => (law_clear; first | omega | (simp only [gj, ij, cj, jj, aj, sj, leapS] at *; omega))); (case b3 => (law_clear; first | omega | (simp only [gj, ij, cj, jj, aj, sj, leapS] at *; omega))); (case e => (first | exact Hint.eq (by with_reducible assumption) | exact rfl))) | (with_reducible refine' w_mul_raw ?b2 ?_; (case b2 => (law_clear; first | omega | (simp only [gj, ij, cj, jj, aj, sj, leapS] at *; omega))))); (try dsimp only)))
local macro_rules | `(tactic| walk_at "binaryOp Mult int float") => `(tactic| (k_here; (first | (with_reducible refine' w_mul_if ?x ?b0 ?b1 ?b2 ?b3 ?e ?_; (case x => (first | (with_reducible exact rfl) | exact lit_greg | exact lit_isl | exact lit_cop | exact lit_arm | exact lit_sar | exact lit_half | exact lit_29h | exact lit_15245)); (case b0 => (law_clear; first | omega | (simp only [gj, ij, cj, jj, aj, sj, leapS] at *; omega))); (case b1 => (law_clear; first | omega | (simp only [gj, ij, cj, jj, aj, sj, leapS] at *; omega))); (case b2 => (law_clear; first | omega | (simp only [gj, ij, cj, jj, aj, sj, leapS] at *; omega))); (case b3 => (law_clear; first | omega | (simp only [gj, ij, cj, jj, aj, sj, leapS] at *; omega))); (case e => (first | exact Hint.eq (by with_reducible assumption) | exact rfl)))); (try dsimp only)))
local macro_rules | `(tactic| walk_at "binaryOp Div float int") => `(tactic| (k_here; (first | (with_reducible refine' w_div_fi ?b0 ?b2 ?_; (case b0 => (law_clear; first | omega | (simp only [gj, ij, cj, jj, aj, sj, leapS] at *; omega))); (case b2 => (law_clear; first | omega | (simp only [gj, ij, cj, jj, aj, sj, leapS] at *; omega))))); (try dsimp only)))
local macro_rules | `(tactic| walk_at "binaryOp Div float float") => `(tactic| (k_here; (first | (with_reducible refine' w_div_29  ?_) | (with_reducible refine' w_div_ff ?z ?_; (case z => (decide +kernel)))); (try dsimp only)))
local macro_rules | `(tactic| walk_at "binaryOp Div int float") => `(tactic| (k_here; (first | (with_reducible refine' w_div_if ?z ?b2 ?_; (case z => (decide +kernel)); (case b2 => (law_clear; first | omega | (simp only [gj, ij, cj, jj, aj, sj, leapS] at *; omega))))); (try dsimp only)))
local macro_rules | `(tactic| walk_at "binaryOp Div int int") => `(tactic| (k_here; (first | (with_reducible refine' w_div_i2 ?b1 ?_; (case b1 => (law_clear; first | omega | (simp only [gj, ij, cj, jj, aj, sj, leapS] at *; omega)))) | (with_reducible refine' w_div_ii ?b0 ?b1 ?_; (case b0 => (law_clear; first | omega | (simp only [gj, ij, cj, jj, aj, sj, leapS] at *; omega))); (case b1 => (law_clear; first | omega | (simp only [gj, ij, cj, jj, aj, sj, leapS] at *; omega))))); (try dsimp only)))
local macro_rules | `(tactic| walk_at "binaryOp Mod float int") => `(tactic| (k_here; (first | (with_reducible refine' w_mod_fi ?x ?b0 ?b1 ?b2 ?e ?_; (case x => (first | (with_reducible exact rfl) | exact lit_greg | exact lit_isl | exact lit_cop | exact lit_arm | exact lit_sar | exact lit_half | exact lit_29h | exact lit_15245)); (case b0 => (law_clear; first | omega | (simp only [gj, ij, cj, jj, aj, sj, leapS] at *; omega))); (case b1 => (law_clear; first | omega | (simp only [gj, ij, cj, jj, aj, sj, leapS] at *; omega))); (case b2 => (law_clear; first | omega | (simp only [gj, ij, cj, jj, aj, sj, leapS] at *; omega))); (case e => (first | exact Hint.eq (by with_reducible assumption) | exact rfl)))); (try dsimp only)))
local macro_rules | `(tactic| walk_at "compareOp Lt float int") => `(tactic| (k_here; (first | (with_reducible refine' w_lt_fi ?x ?b1 ?_; (case x => (first | (with_reducible exact rfl) | exact lit_greg | exact lit_isl | exact lit_cop | exact lit_arm | exact lit_sar | exact lit_half | exact lit_29h | exact lit_15245)); (case b1 => (law_clear; first | omega | (simp only [gj, ij, cj, jj, aj, sj, leapS] at *; omega))))); (try dsimp only)))
local macro_rules | `(tactic| walk_at "compareOp Eq float int") => `(tactic| (k_here; (first | (with_reducible refine' w_eq_fi ?x ?b1 ?_; (case x => (first | (with_reducible exact rfl) | exact lit_greg | exact lit_isl | exact lit_cop | exact lit_arm | exact lit_sar | exact lit_half | exact lit_29h | exact lit_15245)); (case b1 => (law_clear; first | omega | (simp only [gj, ij, cj, jj, aj, sj, leapS] at *; omega))))); (try dsimp only)))
local macro_rules | `(tactic| walk_at "compareOp Eq float float") => `(tactic| (k_here; (first | (with_reducible refine' w_eq_ff ?x ?y ?b1 ?b2 ?_; (case x => (first | (with_reducible exact rfl) | exact lit_greg | exact lit_isl | exact lit_cop | exact lit_arm | exact lit_sar | exact lit_half | exact lit_29h | exact lit_15245)); (case y => (first | (with_reducible exact rfl) | exact lit_greg | exact lit_isl | exact lit_cop | exact lit_arm | exact lit_sar | exact lit_half | exact lit_29h | exact lit_15245)); (case b1 => (law_clear; first | omega | (simp only [gj, ij, cj, jj, aj, sj, leapS] at *; omega))); (case b2 => (law_clear; first | omega | (simp only [gj, ij, cj, jj, aj, sj, leapS] at *; omega))))); (try dsimp only)))
local macro_rules | `(tactic| walk_at "compareOp NotEq float float") => `(tactic| (k_here; (first | (with_reducible refine' w_ne_ff ?x ?y ?b1 ?b2 ?_; (case x => (first | (with_reducible exact rfl) | exact lit_greg | exact lit_isl | exact lit_cop | exact lit_arm | exact lit_sar | exact lit_half | exact lit_29h | exact lit_15245)); (case y => (first | (with_reducible exact rfl) | exact lit_greg | exact lit_isl | exact lit_cop | exact lit_arm | exact lit_sar | exact lit_half | exact lit_29h | exact lit_15245)); (case b1 => (law_clear; first | omega | (simp only [gj, ij, cj, jj, aj, sj, leapS] at *; omega))); (case b2 => (law_clear; first | omega | (simp only [gj, ij, cj, jj, aj, sj, leapS] at *; omega))))); (try dsimp only)))
local macro_rules | `(tactic| walk_at "binaryOp Add int int") => `(tactic| (k_here; (first | (with_reducible refine' w_add_ii ?eh ?_; (case eh => (exact Hint.eq (by with_reducible assumption))))); (try dsimp only)))
local macro_rules | `(tactic| walk_at "binaryOp Add int bool") => `(tactic| (k_here; (first | (with_reducible refine' w_add_ib ?eh ?_; (case eh => (exact Hint.eq (by with_reducible assumption))))); (try dsimp only)))
local macro_rules | `(tactic| walk_at "inplaceOp Add int int") => `(tactic| (k_here; (first | (with_reducible refine' w_iadd_ii ?eh ?_; (case eh => (exact Hint.eq (by with_reducible assumption))))); (try dsimp only)))
local macro_rules | `(tactic| walk_at "subscriptTail") => `(tactic| (k_here; (with_reducible show wpAny _ _ (subscriptTail _ _ (Value.ref _) (Value.int _ _)) _ _ _); k_dflt (first | (refine' w_item_KH ?F ?X ?l ?i ?eh ?b0 ?N ?N2 ?b1 ?_; (case F => k_asm); (case X => k_asm); (case l => k_is); (case i => repeat constructor); (case N => exact rfl); (case N2 => decide); (case eh => (exact Hint.eq (by with_reducible assumption))); (case b0 => (law_clear; first | omega | (simp only [gj, ij, cj, jj, aj, sj, leapS] at *; omega))); (case b1 => (law_clear; first | omega | (simp only [gj, ij, cj, jj, aj, sj, leapS] at *; omega)))) | (refine' w_item_K ?F ?X ?l ?i ?b0 ?N ?N2 ?b1 ?_; (case F => k_asm); (case X => k_asm); (case l => k_is); (case i => repeat constructor); (case N => exact rfl); (case N2 => decide); (case b0 => (law_clear; first | omega | (simp only [gj, ij, cj, jj, aj, sj, leapS] at *; omega))); (case b1 => (law_clear; first | omega | (simp only [gj, ij, cj, jj, aj, sj, leapS] at *; omega)))) | (refine' w_item_LH ?N ?m ?i ?eh ?b0 ?b1 ?b2 ?_; (case N => k_asm); (case m => k_mem); (case i => assumption); (case eh => (exact Hint.eq (by with_reducible assumption))); (case b0 => (law_clear; first | omega | (simp only [gj, ij, cj, jj, aj, sj, leapS] at *; omega))); (case b1 => (law_clear; first | omega | (simp only [gj, ij, cj, jj, aj, sj, leapS] at *; omega))); (case b2 => (law_clear; first | omega | (simp only [gj, ij, cj, jj, aj, sj, leapS] at *; omega)))) | (refine' w_item_L ?N ?m ?i ?b0 ?b1 ?b2 ?_; (case N => k_asm); (case m => k_mem); (case i => assumption); (case b0 => (law_clear; first | omega | (simp only [gj, ij, cj, jj, aj, sj, leapS] at *; omega))); (case b1 => (law_clear; first | omega | (simp only [gj, ij, cj, jj, aj, sj, leapS] at *; omega))); (case b2 => (law_clear; first | omega | (simp only [gj, ij, cj, jj, aj, sj, leapS] at *; omega))))); intro t9; (try dsimp only)))
local macro_rules | `(tactic| walk_at "subscriptTail Name Constant ref int") => `(tactic| (k_here; (with_reducible show wpAny _ _ (subscriptTail _ _ (Value.ref _) (Value.int _ _)) _ _ _); k_dflt (first | (refine' w_item_KH ?F ?X ?l ?i ?eh ?b0 ?N ?N2 ?b1 ?_; (case F => k_asm); (case X => k_asm); (case l => k_is); (case i => repeat constructor); (case N => exact rfl); (case N2 => decide); (case eh => (exact Hint.eq (by with_reducible assumption))); (case b0 => (law_clear; first | omega | (simp only [gj, ij, cj, jj, aj, sj, leapS] at *; omega))); (case b1 => (law_clear; first | omega | (simp only [gj, ij, cj, jj, aj, sj, leapS] at *; omega)))) | (refine' w_item_K ?F ?X ?l ?i ?b0 ?N ?N2 ?b1 ?_; (case F => k_asm); (case X => k_asm); (case l => k_is); (case i => repeat constructor); (case N => exact rfl); (case N2 => decide); (case b0 => (law_clear; first | omega | (simp only [gj, ij, cj, jj, aj, sj, leapS] at *; omega))); (case b1 => (law_clear; first | omega | (simp only [gj, ij, cj, jj, aj, sj, leapS] at *; omega)))) | (refine' w_item_LH ?N ?m ?i ?eh ?b0 ?b1 ?b2 ?_; (case N => k_asm); (case m => k_mem); (case i => assumption); (case eh => (exact Hint.eq (by with_reducible assumption))); (case b0 => (law_clear; first | omega | (simp only [gj, ij, cj, jj, aj, sj, leapS] at *; omega))); (case b1 => (law_clear; first | omega | (simp only [gj, ij, cj, jj, aj, sj, leapS] at *; omega))); (case b2 => (law_clear; first | omega | (simp only [gj, ij, cj, jj, aj, sj, leapS] at *; omega)))) | (refine' w_item_L ?N ?m ?i ?b0 ?b1 ?b2 ?_; (case N => k_asm); (case m => k_mem); (case i => assumption); (case b0 => (law_clear; first | omega | (simp only [gj, ij, cj, jj, aj, sj, leapS] at *; omega))); (case b1 => (law_clear; first | omega | (simp only [gj, ij, cj, jj, aj, sj, leapS] at *; omega))); (case b2 => (law_clear; first | omega | (simp only [gj, ij, cj, jj, aj, sj, leapS] at *; omega))))); intro t9; (try dsimp only)))
local macro_rules | `(tactic| walk_at "subscriptTail Name BinOp ref int") => `(tactic| (k_here; (with_reducible show wpAny _ _ (subscriptTail _ _ (Value.ref _) (Value.int _ _)) _ _ _); k_dflt (first | (refine' w_item_KH ?F ?X ?l ?i ?eh ?b0 ?N ?N2 ?b1 ?_; (case F => k_asm); (case X => k_asm); (case l => k_is); (case i => repeat constructor); (case N => exact rfl); (case N2 => decide); (case eh => (exact Hint.eq (by with_reducible assumption))); (case b0 => (law_clear; first | omega | (simp only [gj, ij, cj, jj, aj, sj, leapS] at *; omega))); (case b1 => (law_clear; first | omega | (simp only [gj, ij, cj, jj, aj, sj, leapS] at *; omega)))) | (refine' w_item_K ?F ?X ?l ?i ?b0 ?N ?N2 ?b1 ?_; (case F => k_asm); (case X => k_asm); (case l => k_is); (case i => repeat constructor); (case N => exact rfl); (case N2 => decide); (case b0 => (law_clear; first | omega | (simp only [gj, ij, cj, jj, aj, sj, leapS] at *; omega))); (case b1 => (law_clear; first | omega | (simp only [gj, ij, cj, jj, aj, sj, leapS] at *; omega)))) | (refine' w_item_LH ?N ?m ?i ?eh ?b0 ?b1 ?b2 ?_; (case N => k_asm); (case m => k_mem); (case i => assumption); (case eh => (exact Hint.eq (by with_reducible assumption))); (case b0 => (law_clear; first | omega | (simp only [gj, ij, cj, jj, aj, sj, leapS] at *; omega))); (case b1 => (law_clear; first | omega | (simp only [gj, ij, cj, jj, aj, sj, leapS] at *; omega))); (case b2 => (law_clear; first | omega | (simp only [gj, ij, cj, jj, aj, sj, leapS] at *; omega)))) | (refine' w_item_L ?N ?m ?i ?b0 ?b1 ?b2 ?_; (case N => k_asm); (case m => k_mem); (case i => assumption); (case b0 => (law_clear; first | omega | (simp only [gj, ij, cj, jj, aj, sj, leapS] at *; omega))); (case b1 => (law_clear; first | omega | (simp only [gj, ij, cj, jj, aj, sj, leapS] at *; omega))); (case b2 => (law_clear; first | omega | (simp only [gj, ij, cj, jj, aj, sj, leapS] at *; omega))))); intro t9; (try dsimp only)))
local macro_rules | `(tactic| walk_at "call builtin:divmod") => `(tactic| (k_here; (refine' w_divmod ?F ?N ?b0 ?b1 ?e1 ?e2 ?_; (case F => k_asm); (case N => k_asm); (case b0 => (law_clear; first | omega | (simp only [gj, ij, cj, jj, aj, sj, leapS] at *; omega))); (case b1 => (law_clear; first | omega | (simp only [gj, ij, cj, jj, aj, sj, leapS] at *; omega))); (case e1 => (first | exact Hint.eq (by with_reducible assumption) | exact rfl)); (case e2 => (first | exact Hint.eq (by with_reducible assumption) | exact rfl))); intro D9 t9 u9 h9 tk9 F9 N9; (try dsimp only)))
local macro_rules | `(tactic| walk_at "call builtin:math.floor") => `(tactic| (k_here; (with_reducible show wpAny _ _ (call _ [Value.float _ _]) _ _ _); (with_reducible (first | (refine' w_floor (fl_H ?b1) ?e ?_; (case b1 => (law_clear; first | omega | (simp only [gj, ij, cj, jj, aj, sj, leapS] at *; omega))); (case e => (first | exact Hint.eq (by with_reducible assumption) | exact rfl))) | (refine' w_floor ((div_Hi ?b1 ?b2 ?b3 ?b4 ?b5).1) ?e ?_; (case b1 => (law_clear; first | omega | (simp only [gj, ij, cj, jj, aj, sj, leapS] at *; omega))); (case b2 => (law_clear; first | omega | (simp only [gj, ij, cj, jj, aj, sj, leapS] at *; omega))); (case b3 => (law_clear; first | omega | (simp only [gj, ij, cj, jj, aj, sj, leapS] at *; omega))); (case b4 => (law_clear; first | omega | (simp only [gj, ij, cj, jj, aj, sj, leapS] at *; omega))); (case b5 => (law_clear; first | omega | (simp only [gj, ij, cj, jj, aj, sj, leapS] at *; omega))); (case e => (first | exact Hint.eq (by with_reducible assumption) | exact rfl))) | (refine' w_floor ((div_HH ?b1 ?b2 ?b3 ?b4 ?b5).1) ?e ?_; (case b1 => (law_clear; first | omega | (simp only [gj, ij, cj, jj, aj, sj, leapS] at *; omega))); (case b2 => (law_clear; first | omega | (simp only [gj, ij, cj, jj, aj, sj, leapS] at *; omega))); (case b3 => (law_clear; first | omega | (simp only [gj, ij, cj, jj, aj, sj, leapS] at *; omega))); (case b4 => (law_clear; first | omega | (simp only [gj, ij, cj, jj, aj, sj, leapS] at *; omega))); (case b5 => (law_clear; first | omega | (simp only [gj, ij, cj, jj, aj, sj, leapS] at *; omega))); (case e => (first | exact Hint.eq (by with_reducible assumption) | exact rfl))) | (refine' w_floor ((frac_ii ?b1 ?b2 ?b3 ?b4 ?b5).1) ?e ?_; (case b1 => (law_clear; first | omega | (simp only [gj, ij, cj, jj, aj, sj, leapS] at *; omega))); (case b2 => (law_clear; first | omega | (simp only [gj, ij, cj, jj, aj, sj, leapS] at *; omega))); (case b3 => (law_clear; first | omega | (simp only [gj, ij, cj, jj, aj, sj, leapS] at *; omega))); (case b4 => (law_clear; first | omega | (simp only [gj, ij, cj, jj, aj, sj, leapS] at *; omega))); (case b5 => (law_clear; first | omega | (simp only [gj, ij, cj, jj, aj, sj, leapS] at *; omega))); (case e => (first | exact Hint.eq (by with_reducible assumption) | exact rfl))) | (refine' w_floor (greg_d ?b1 ?b2 ?b3 ?b4) ?e ?_; (case b1 => (law_clear; first | omega | (simp only [gj, ij, cj, jj, aj, sj, leapS] at *; omega))); (case b2 => (law_clear; first | omega | (simp only [gj, ij, cj, jj, aj, sj, leapS] at *; omega))); (case b3 => (law_clear; first | omega | (simp only [gj, ij, cj, jj, aj, sj, leapS] at *; omega))); (case b4 => (law_clear; first | omega | (simp only [gj, ij, cj, jj, aj, sj, leapS] at *; omega))); (case e => (first | exact Hint.eq (by with_reducible assumption) | exact rfl))) | (refine' w_floor (jul_c ?b1) ?e ?_; (case b1 => (law_clear; first | omega | (simp only [gj, ij, cj, jj, aj, sj, leapS] at *; omega))); (case e => (first | exact Hint.eq (by with_reducible assumption) | exact rfl))) | (refine' w_floor (jul_d ?b1) ?e ?_; (case b1 => (law_clear; first | omega | (simp only [gj, ij, cj, jj, aj, sj, leapS] at *; omega))); (case e => (first | exact Hint.eq (by with_reducible assumption) | exact rfl))) | (refine' w_floor (jul_e ?b1 ?b2) ?e ?_; (case b1 => (law_clear; first | omega | (simp only [gj, ij, cj, jj, aj, sj, leapS] at *; omega))); (case b2 => (law_clear; first | omega | (simp only [gj, ij, cj, jj, aj, sj, leapS] at *; omega))); (case e => (first | exact Hint.eq (by with_reducible assumption) | exact rfl))) | (refine' w_floor (jul_m ?b1 ?b2) ?e ?_; (case b1 => (law_clear; first | omega | (simp only [gj, ij, cj, jj, aj, sj, leapS] at *; omega))); (case b2 => (law_clear; first | omega | (simp only [gj, ij, cj, jj, aj, sj, leapS] at *; omega))); (case e => (first | exact Hint.eq (by with_reducible assumption) | exact rfl))))); (try dsimp only)))
local macro_rules | `(tactic| walk_at "call builtin:math.ceil") => `(tactic| (k_here; (with_reducible show wpAny _ _ (call _ [Value.float _ _]) _ _ _); (with_reducible (first | (refine' w_ceil (ce_H ?b1) ?e ?_; (case b1 => (law_clear; first | omega | (simp only [gj, ij, cj, jj, aj, sj, leapS] at *; omega))); (case e => (first | exact Hint.eq (by with_reducible assumption) | exact rfl))) | (refine' w_ceil ((div_HH ?b1 ?b2 ?b3 ?b4 ?b5).2) ?e ?_; (case b1 => (law_clear; first | omega | (simp only [gj, ij, cj, jj, aj, sj, leapS] at *; omega))); (case b2 => (law_clear; first | omega | (simp only [gj, ij, cj, jj, aj, sj, leapS] at *; omega))); (case b3 => (law_clear; first | omega | (simp only [gj, ij, cj, jj, aj, sj, leapS] at *; omega))); (case b4 => (law_clear; first | omega | (simp only [gj, ij, cj, jj, aj, sj, leapS] at *; omega))); (case b5 => (law_clear; first | omega | (simp only [gj, ij, cj, jj, aj, sj, leapS] at *; omega))); (case e => (first | exact Hint.eq (by with_reducible assumption) | exact rfl))) | (refine' w_ceil ((div_Hi ?b1 ?b2 ?b3 ?b4 ?b5).2) ?e ?_; (case b1 => (law_clear; first | omega | (simp only [gj, ij, cj, jj, aj, sj, leapS] at *; omega))); (case b2 => (law_clear; first | omega | (simp only [gj, ij, cj, jj, aj, sj, leapS] at *; omega))); (case b3 => (law_clear; first | omega | (simp only [gj, ij, cj, jj, aj, sj, leapS] at *; omega))); (case b4 => (law_clear; first | omega | (simp only [gj, ij, cj, jj, aj, sj, leapS] at *; omega))); (case b5 => (law_clear; first | omega | (simp only [gj, ij, cj, jj, aj, sj, leapS] at *; omega))); (case e => (first | exact Hint.eq (by with_reducible assumption) | exact rfl))) | (refine' w_ceil ((frac_ii ?b1 ?b2 ?b3 ?b4 ?b5).2) ?e ?_; (case b1 => (law_clear; first | omega | (simp only [gj, ij, cj, jj, aj, sj, leapS] at *; omega))); (case b2 => (law_clear; first | omega | (simp only [gj, ij, cj, jj, aj, sj, leapS] at *; omega))); (case b3 => (law_clear; first | omega | (simp only [gj, ij, cj, jj, aj, sj, leapS] at *; omega))); (case b4 => (law_clear; first | omega | (simp only [gj, ij, cj, jj, aj, sj, leapS] at *; omega))); (case b5 => (law_clear; first | omega | (simp only [gj, ij, cj, jj, aj, sj, leapS] at *; omega))); (case e => (first | exact Hint.eq (by with_reducible assumption) | exact rfl))))); (try dsimp only)))
local macro_rules | `(tactic| walk_at "call builtin:math.trunc") => `(tactic| (k_here; (with_reducible show wpAny _ _ (call _ [Value.float _ _]) _ _ _); (with_reducible (first | (refine' w_trunc (tr_H ?b1 ?b2) ?e ?_; (case b1 => (law_clear; first | omega | (simp only [gj, ij, cj, jj, aj, sj, leapS] at *; omega))); (case b2 => (law_clear; first | omega | (simp only [gj, ij, cj, jj, aj, sj, leapS] at *; omega))); (case e => (first | exact Hint.eq (by with_reducible assumption) | exact rfl))) | (refine' w_trunc (tr_of_fl (div_Hi ?b1 ?b2 ?b3 ?b4 ?b5).1 ?b6) ?e ?_; (case b1 => (law_clear; first | omega | (simp only [gj, ij, cj, jj, aj, sj, leapS] at *; omega))); (case b2 => (law_clear; first | omega | (simp only [gj, ij, cj, jj, aj, sj, leapS] at *; omega))); (case b3 => (law_clear; first | omega | (simp only [gj, ij, cj, jj, aj, sj, leapS] at *; omega))); (case b4 => (law_clear; first | omega | (simp only [gj, ij, cj, jj, aj, sj, leapS] at *; omega))); (case b5 => (law_clear; first | omega | (simp only [gj, ij, cj, jj, aj, sj, leapS] at *; omega))); (case b6 => (law_clear; first | omega | (simp only [gj, ij, cj, jj, aj, sj, leapS] at *; omega))); (case e => (first | exact Hint.eq (by with_reducible assumption) | exact rfl))) | (refine' w_trunc (tr_of_fl (arm_y ?b1 ?b4 ?b5) ?b6) ?e ?_; (case b1 => (law_clear; first | omega | (simp only [gj, ij, cj, jj, aj, sj, leapS] at *; omega))); (case b4 => (law_clear; first | omega | (simp only [gj, ij, cj, jj, aj, sj, leapS] at *; omega))); (case b5 => (law_clear; first | omega | (simp only [gj, ij, cj, jj, aj, sj, leapS] at *; omega))); (case b6 => (law_clear; first | omega | (simp only [gj, ij, cj, jj, aj, sj, leapS] at *; omega))); (case e => (first | exact Hint.eq (by with_reducible assumption) | exact rfl))) | (refine' w_trunc (tr_of_fl (frac_ii ?b1 ?b2 ?b3 ?b4 ?b5).1 ?b6) ?e ?_; (case b1 => (law_clear; first | omega | (simp only [gj, ij, cj, jj, aj, sj, leapS] at *; omega))); (case b2 => (law_clear; first | omega | (simp only [gj, ij, cj, jj, aj, sj, leapS] at *; omega))); (case b3 => (law_clear; first | omega | (simp only [gj, ij, cj, jj, aj, sj, leapS] at *; omega))); (case b4 => (law_clear; first | omega | (simp only [gj, ij, cj, jj, aj, sj, leapS] at *; omega))); (case b5 => (law_clear; first | omega | (simp only [gj, ij, cj, jj, aj, sj, leapS] at *; omega))); (case b6 => (law_clear; first | omega | (simp only [gj, ij, cj, jj, aj, sj, leapS] at *; omega))); (case e => (first | exact Hint.eq (by with_reducible assumption) | exact rfl))))); (try dsimp only)))
local macro_rules | `(tactic| walk_at "call type:int") => `(tactic| (k_here; (with_reducible show wpAny _ _ (call _ [Value.float _ _]) _ _ _); (with_reducible (first | (refine' w_int (tr_H ?b1 ?b2) ?e ?_; (case b1 => (law_clear; first | omega | (simp only [gj, ij, cj, jj, aj, sj, leapS] at *; omega))); (case b2 => (law_clear; first | omega | (simp only [gj, ij, cj, jj, aj, sj, leapS] at *; omega))); (case e => (first | exact Hint.eq (by with_reducible assumption) | exact rfl))) | (refine' w_int (tr_of_fl (div_Hi ?b1 ?b2 ?b3 ?b4 ?b5).1 ?b6) ?e ?_; (case b1 => (law_clear; first | omega | (simp only [gj, ij, cj, jj, aj, sj, leapS] at *; omega))); (case b2 => (law_clear; first | omega | (simp only [gj, ij, cj, jj, aj, sj, leapS] at *; omega))); (case b3 => (law_clear; first | omega | (simp only [gj, ij, cj, jj, aj, sj, leapS] at *; omega))); (case b4 => (law_clear; first | omega | (simp only [gj, ij, cj, jj, aj, sj, leapS] at *; omega))); (case b5 => (law_clear; first | omega | (simp only [gj, ij, cj, jj, aj, sj, leapS] at *; omega))); (case b6 => (law_clear; first | omega | (simp only [gj, ij, cj, jj, aj, sj, leapS] at *; omega))); (case e => (first | exact Hint.eq (by with_reducible assumption) | exact rfl))) | (refine' w_int (tr_of_fl (arm_y ?b1 ?b4 ?b5) ?b6) ?e ?_; (case b1 => (law_clear; first | omega | (simp only [gj, ij, cj, jj, aj, sj, leapS] at *; omega))); (case b4 => (law_clear; first | omega | (simp only [gj, ij, cj, jj, aj, sj, leapS] at *; omega))); (case b5 => (law_clear; first | omega | (simp only [gj, ij, cj, jj, aj, sj, leapS] at *; omega))); (case b6 => (law_clear; first | omega | (simp only [gj, ij, cj, jj, aj, sj, leapS] at *; omega))); (case e => (first | exact Hint.eq (by with_reducible assumption) | exact rfl))) | (refine' w_int (tr_of_fl (frac_ii ?b1 ?b2 ?b3 ?b4 ?b5).1 ?b6) ?e ?_; (case b1 => (law_clear; first | omega | (simp only [gj, ij, cj, jj, aj, sj, leapS] at *; omega))); (case b2 => (law_clear; first | omega | (simp only [gj, ij, cj, jj, aj, sj, leapS] at *; omega))); (case b3 => (law_clear; first | omega | (simp only [gj, ij, cj, jj, aj, sj, leapS] at *; omega))); (case b4 => (law_clear; first | omega | (simp only [gj, ij, cj, jj, aj, sj, leapS] at *; omega))); (case b5 => (law_clear; first | omega | (simp only [gj, ij, cj, jj, aj, sj, leapS] at *; omega))); (case b6 => (law_clear; first | omega | (simp only [gj, ij, cj, jj, aj, sj, leapS] at *; omega))); (case e => (first | exact Hint.eq (by with_reducible assumption) | exact rfl))))); (try dsimp only)))
local macro_rules | `(tactic| walk_at "ite") => `(tactic| (k_here; k_openite; k_spoken; first | (refine ite_pos (by (law_clear; (try simp (disch := omega) only [ib, ibn, not_true_eq_false, not_false_eq_true, decide_eq_decide, Int.fmod_eq_emod_of_nonneg, Int.fdiv_eq_ediv_of_nonneg, decide_eq_true_eq, beq_iff_eq, bne_iff_ne, ne_eq, Bool.not_eq_true', decide_eq_false_iff_not, Bool.and_eq_true, Bool.or_eq_true, Bool.not_eq_true]); first | done | omega)) ?_; walk_say "PRUNED by own") | (refine ite_neg (by (law_clear; (try simp (disch := omega) only [ib, ibn, not_true_eq_false, not_false_eq_true, decide_eq_decide, Int.fmod_eq_emod_of_nonneg, Int.fdiv_eq_ediv_of_nonneg, decide_eq_true_eq, beq_iff_eq, bne_iff_ne, ne_eq, Bool.not_eq_true', decide_eq_false_iff_not, Bool.and_eq_true, Bool.or_eq_true, Bool.not_eq_true]); first | done | omega)) ?_; walk_say "PRUNED by own")))
local macro_rules | `(tactic| walk_at "exec If") => `(tactic| (k_here; refine' join_if ?hj ?F ?N ?_ ?_; (case hj => assumption); (case F => k_asm); (case N => k_asm); (focus (repeat (with_reducible rename JoinAt _ _ _ => hj9; clear hj9))); rotate_left; (intro t9 h9 tk9 F9 N9; (try dsimp only); (try k_fold)); rotate_right))
local macro_rules | `(tactic| walk_at "eval Compare") => `(tactic| (k_here; refine' join_cmp ?hj ?F ?N ?_ ?_; (case hj => assumption); (case F => k_asm); (case N => k_asm); (focus (repeat (with_reducible rename JoinB _ _ _ => hj9; clear hj9))); rotate_left; (intro h9 tk9 F9 N9; (try dsimp only); (try k_fold)); rotate_right))
local macro_rules | `(tactic| walk_at "subscriptTail Name Constant ref int") => `(tactic| (k_here; (first | (with_reducible refine' w_item_T0 ?itN ?itm ?_) | (with_reducible refine' w_item_T1 ?itN ?itm ?_) | (with_reducible refine' w_item_T2 ?itN ?itm ?_)); (case itN => k_asm); (case itm => k_dflt k_mem); (try dsimp only)))
local macro_rules | `(tactic| walk_at "call builtin:str.format") => `(tactic| (k_here; (with_reducible show wpAny _ _ (call (Value.builtin "str.format") _) _ _ _); k_dflt (first | (refine' w_fmt_n ?_) | (refine' w_fmt_s ?_)); intro x9 t9 tk9; (try dsimp only)))
local macro_rules | `(tactic| walk_at "call builtin:len") => `(tactic| (k_here; (with_reducible show wpAny _ _ (call (Value.builtin "len") [Value.ref _]) _ _ _); k_dflt (first | (refine' w_len_K ?F ?X ?l ?i ?k ?f ?_; (case F => k_asm); (case X => k_asm); (case l => k_is); (case i => repeat constructor); (case k => (first | exact Eq.refl (1 : Int) | exact Eq.refl (4 : Int) | exact Eq.refl (30 : Int))); (case f => decide)) | (refine' w_len_L ?N ?m ?i ?f ?_; (case N => k_asm); (case m => k_mem); (case i => assumption); (case f => first | exact filt_short | (law_clear; first | omega | (simp only [gj, ij, cj, jj, aj, sj, leapS] at *; omega))))); intro t9 tk9; (try dsimp only)))
local macro_rules | `(tactic| walk_at "call builtin:sum") => `(tactic| (k_here; (with_reducible show wpAny _ _ (call (Value.builtin "sum") [Value.ref _]) _ _ _); k_dflt (first | (refine' w_sum_K ?F ?N ?hh ?X ?l ?i ?k ?_; (case F => k_asm); (case N => k_asm); (case hh => with_unfolding_all rfl); (case X => k_asm); (case l => k_is); (case i => repeat constructor); (case k => (first | exact Eq.refl (365 : Int) | exact Eq.refl (1461 : Int) | exact Eq.refl (10631 : Int)))) | (refine' w_sum_TH ?F ?N ?hh ?m ?i ?es ?_; (case F => k_asm); (case N => k_asm); (case hh => with_unfolding_all rfl); (case m => k_mem); (case i => assumption); (case es => (first | exact Hint.eq (by with_reducible assumption) | exact rfl))) | (refine' w_sum_LH ?F ?N ?hh ?m ?i ?es ?_; (case F => k_asm); (case N => k_asm); (case hh => with_unfolding_all rfl); (case m => k_mem); (case i => assumption); (case es => (first | exact Hint.eq (by with_reducible assumption) | exact rfl)))); intro h9 tk9 t9 F9 N9; (try dsimp only)))
local macro_rules | `(tactic| walk_at "subscriptTail") => `(tactic| (k_here; (with_reducible show wpAny _ _ (subscriptTail _ _ (Value.ref _) (Value.ref _)) _ _ _); k_dflt (first | (refine' w_cut_K ?F ?N ?X ?l ?i ?b0 ?k ?f ?b1 ?_; (case F => k_asm); (case N => k_asm); (case X => k_asm); (case l => k_is); (case i => repeat constructor); (case k => (first | exact Eq.refl (1 : Int) | exact Eq.refl (4 : Int) | exact Eq.refl (30 : Int))); (case f => decide); (case b0 => (law_clear; first | omega | (simp only [gj, ij, cj, jj, aj, sj, leapS] at *; omega))); (case b1 => (law_clear; first | omega | (simp only [gj, ij, cj, jj, aj, sj, leapS] at *; omega)))) | (refine' w_cut_L ?F ?N ?m ?i ?b0 ?f ?_; (case F => k_asm); (case N => k_asm); (case m => k_mem); (case i => assumption); (case b0 => (law_clear; first | omega | (simp only [gj, ij, cj, jj, aj, sj, leapS] at *; omega))); (case f => (law_clear; first | omega | (simp only [gj, ij, cj, jj, aj, sj, leapS] at *; omega))))); intro D9 ws9 h9 F9 N9 i9; (try dsimp only)))
local macro_rules | `(tactic| walk_at "FiltSrc") => `(tactic| (k_here; k_dflt (refine' FiltSrc.intro ?fsh ?fsF ?fsN ?fsm ?fsi ?fsz ?fsp ?_ ?_; (case fsh => with_unfolding_all rfl); (case fsF => k_asm); (case fsN => k_asm); (case fsm => k_mem); (case fsi => repeat constructor); (case fsz => decide); (case fsp => decide)); (focus (intro k9 t9 I9 oI9 C9 oC9 D9 oD9 m9 h9 tk9 E9 p9 hC9 hx9 F9 N9; (try dsimp only))); rotate_left; (focus (intro D9 ws9 h9 tk9 i9 F9 N9; (try dsimp only))); rotate_right))
local macro_rules | `(tactic| walk_at "FiltEnd") => `(tactic| (exact ⟨filt_mod (by assumption), _, rfl⟩))
local macro_rules | `(tactic| walk_at "pyIter ref") => `(tactic| (k_here; (with_reducible show wpAny _ _ (pyIter (Value.ref _)) (fun it s₂ => TurnsAt _ _ _ _ _ _ _ _ _ it s₂) _ _); k_dflt (refine' two_turns ?tth ?ttF ?ttN ?ttm ?ttc ?ttd ?_; (case tth => with_unfolding_all rfl); (case ttF => k_asm); (case ttN => k_asm); (case ttm => k_mem); (case ttc => exact rfl); (case ttd => exact rfl)); intro I9 i9 h9 tk9 F9 N9; (try dsimp only)))
local macro_rules | `(tactic| walk_at "TurnEnd") => `(tactic| (k_here; k_dflt (refine' TurnEnd.intro ?tuF ?tuN ?tuh ?_; (case tuF => k_asm); (case tuN => k_asm); (case tuh => (first | (intro p9 hp9; (repeat (with_reducible refine List.mem_cons_of_mem _ ?_)); exact hp9) | kcj_all))); (first | (intro i9 h9 tk9 F9 N9) | (intro h9 tk9 F9 N9)); (try dsimp only)))
local macro_rules | `(tactic| walk_at "compareOp Eq ref ref") => `(tactic| (k_here; (with_reducible show wpAny _ _ (compareOp CmpOp.Eq (Value.ref _) (Value.ref _)) _ _ _); k_dflt (refine' w_eq_T3 ?eqN ?eqa ?eqb ?equ ?eq1 ?eq2 ?eq3 ?_; (case eqN => k_asm); (case eqa => first | k_mem | ((repeat (refine' List.Mem.tail _ ?_)); assumption)); (case eqb => first | k_mem | ((repeat (refine' List.Mem.tail _ ?_)); assumption)); (case equ => ke_room); (case eq1 => first | (with_reducible exact rfl) | (law_clear; first | omega | (simp only [gj, ij, cj, jj, aj, sj, leapS] at *; omega))); (case eq2 => first | (with_reducible exact rfl) | (law_clear; first | omega | (simp only [gj, ij, cj, jj, aj, sj, leapS] at *; omega))); (case eq3 => first | (with_reducible exact rfl) | (law_clear; first | omega | (simp only [gj, ij, cj, jj, aj, sj, leapS] at *; omega))))))
local macro_rules | `(tactic| walk_at "compareOp NotEq ref ref") => `(tactic| (k_here; (with_reducible show wpAny _ _ (compareOp CmpOp.NotEq (Value.ref _) (Value.ref _)) _ _ _); k_dflt (refine' w_ne_T3 ?eqN ?eqa ?eqb ?equ ?eq1 ?eq2 ?eq3 ?_; (case eqN => k_asm); (case eqa => first | k_mem | ((repeat (refine' List.Mem.tail _ ?_)); assumption)); (case eqb => first | k_mem | ((repeat (refine' List.Mem.tail _ ?_)); assumption)); (case equ => ke_room); (case eq1 => first | (with_reducible exact rfl) | (law_clear; first | omega | (simp only [gj, ij, cj, jj, aj, sj, leapS] at *; omega))); (case eq2 => first | (with_reducible exact rfl) | (law_clear; first | omega | (simp only [gj, ij, cj, jj, aj, sj, leapS] at *; omega))); (case eq3 => first | (with_reducible exact rfl) | (law_clear; first | omega | (simp only [gj, ij, cj, jj, aj, sj, leapS] at *; omega))))))
local macro_rules | `(tactic| walk_at "compareOp Eq float float") => `(tactic| (k_here; k_dflt (refine' w_eq_same ?wes ?_; (case wes => (law_clear; first | omega | (simp only [gj, ij, cj, jj, aj, sj, leapS] at *; omega))))))
section
local macro_rules | `(tactic| walk_at "eval Name") => `(tactic| (k_here; k_dflt (first | (name_kind "local"; refine' nameX_L ?F ?v ?_ ?a ?b ?c; (case F => k_asm); (case a => kernel_rfl); (case b => kernel_rfl); (case c => kernel_rfl); (case v => first | (refine' look_of ?gg ?ge; (case gg => (repeat (first | (with_reducible exact guess_hit_l) | (with_reducible apply guess_miss_l) | (with_reducible exact guess_hit_if) | ((with_reducible show Guess (@ite _ _ _ _ _) _); (with_reducible apply guess_miss_if))))); (case ge => kernel_rfl)) | exact rfl)))))
set_option maxRecDepth 100000 in
set_option maxHeartbeats 8000000 in
theorem c_isleap (y : Int) (t : Tok) :
    Claim 50 [.int y t] 1 (RetV fun _ => .bool (decide (y % 4 = 0 ∧ (y % 100 ≠ 0 ∨ y % 400 = 0)))) := by
  refine gate_out ?_
  simp (disch := (k_dflt (
  intro prog w p loose mean mg mb dp un gd cn cs a ccd cl outer A₀ base h₀ L mm news s Q E B F X N T hk hdp hun hret
  (refine wpAny_call ?_; (k_dflt cell_enter); (try ((rename Fr _ _ _ _ => F8); (first | (have F9 := Fr_as F8 (m' := fun y9 => List.lookup y9 [(Str.ofString "year", (.int y t : Value))]) rfl) | (have F9 := Fr_as F8 (m' := fun y9 => List.lookup y9 [(Str.ofString "year", (.int y t : Value))]) rfl)); clear F8));  k_steps; all_goals (first | (((first | (with_reducible refine' hret 0 ?_ ?_ ?cbF ?cbN) | (with_reducible refine' hret _ ?_ ?_ ?cbF ?cbN))); (case cbF => k_asm); (case cbN => first | (with_reducible assumption) | (refine' cb_drop ?cbM ?cbS; (case cbM => assumption); (case cbS => (first | (intro p9 hp9; (repeat (with_reducible refine List.mem_cons_of_mem _ ?_)); exact hp9) | kcj_all))))) | cb_end hret))))) only [↓gate_true]
end
section
local macro_rules | `(tactic| walk_at "call ref") => `(tactic| (k_here; (with_reducible show wpAny _ _ (PySem.call (Value.ref 50) [Value.int _ _]) _ _ _); k_dflt (refine' use (c_isleap _ _) ?k1 ?k2 ?k3 ?k4 ?k5 ?kK ?kd ?ku ?_; (case k1 => k_asm); (case k2 => k_asm); (case k3 => k_asm); (case k4 => k_asm); (case k5 => k_asm); (case kK => first | exact rfl | assumption); (case kd => first | ((with_reducible refine' room_dp ?rdh ?rdk); (case rdh => with_reducible assumption); (case rdk => decide)) | ktr_room); (case ku => first | ((with_reducible refine' room_un ?ruh ?ruk); (case ruh => with_reducible assumption); (case ruk => decide)) | ktr_units); intro t9 h9 tk9 F9 N9; (try dsimp only); (try k_fold))))
local macro_rules | `(tactic| walk_at "eval Name") => `(tactic| (k_here; k_dflt (first | (name_kind "local"; refine' nameX_L ?F ?v ?_ ?a ?b ?c; (case F => k_asm); (case a => kernel_rfl); (case b => kernel_rfl); (case c => kernel_rfl); (case v => first | (refine' look_of ?gg ?ge; (case gg => (repeat (first | (with_reducible exact guess_hit_l) | (with_reducible apply guess_miss_l) | (with_reducible exact guess_hit_if) | ((with_reducible show Guess (@ite _ _ _ _ _) _); (with_reducible apply guess_miss_if))))); (case ge => kernel_rfl)) | exact rfl)) | (name_kind "globalImplicit"; refine' nameX_K ?F ?X ?T ?e ?_ ?a ?b ?c; (case F => k_asm); (case X => k_asm); (case T => k_asm); (case e => with_reducible (first | exact gn_isleap _ | exact gn_HAVE_30_DAYS_gregorian _)); (case a => kernel_rfl); (case b => kernel_rfl); (case c => kernel_rfl)) | (name_kind "globalImplicit"; refine' nameX_B ?F ?X ?T ?e ?v ?n ?_ ?a ?b ?c; (case F => k_asm); (case X => k_asm); (case T => k_asm); (case e => with_reducible (first | exact gb_ValueError _)); (case v => with_reducible (first | exact bb_ValueError)); (case a => kernel_rfl); (case b => kernel_rfl); (case n => decide); (case c => kernel_rfl)))))
set_option maxRecDepth 100000 in
set_option maxHeartbeats 8000000 in
theorem c_legal_greg (y m d : Int) (t u v : Tok) (h1 : 1 ≤ d) (h2 : d ≤ 31) (h3 : m ≠ 2 ∨ d ≤ 29) (h4 : m ≠ 2 ∨ (y % 4 = 0 ∧ (y % 100 ≠ 0 ∨ y % 400 = 0)) ∨ d ≤ 28) (h5 : ¬ (m = 4 ∨ m = 6 ∨ m = 9 ∨ m = 11) ∨ d ≤ 30) :
    Claim 57 [.int y t, .int m u, .int d v] 2 (RetV fun _ => .bool true) := by
  refine gate_out ?_
  simp (disch := (k_dflt (
  intro prog w p loose mean mg mb dp un gd cn cs a ccd cl outer A₀ base h₀ L mm news s Q E B F X N T hk hdp hun hret
  (refine wpAny_call ?_; (k_dflt cell_enter); (try ((rename Fr _ _ _ _ => F8); (first | (have F9 := Fr_as F8 (m' := fun y9 => List.lookup y9 [(Str.ofString "day", (.int d v : Value)), (Str.ofString "month", (.int m u : Value)), (Str.ofString "year", (.int y t : Value))]) rfl) | (have F9 := Fr_as F8 (m' := fun y9 => List.lookup y9 [(Str.ofString "year", (.int y t : Value)), (Str.ofString "month", (.int m u : Value)), (Str.ofString "day", (.int d v : Value))]) rfl)); clear F8));  k_steps; all_goals (first | (((first | (with_reducible refine' hret 0 ?_ ?_ ?cbF ?cbN) | (with_reducible refine' hret _ ?_ ?_ ?cbF ?cbN))); (case cbF => k_asm); (case cbN => first | (with_reducible assumption) | (refine' cb_drop ?cbM ?cbS; (case cbM => assumption); (case cbS => (first | (intro p9 hp9; (repeat (with_reducible refine List.mem_cons_of_mem _ ?_)); exact hp9) | kcj_all))))) | cb_end hret))))) only [↓gate_true]
end
section
local macro_rules | `(tactic| walk_at "call ref") => `(tactic| (k_here; (with_reducible show wpAny _ _ (PySem.call (Value.ref 50) [Value.int _ _]) _ _ _); k_dflt (refine' use (c_isleap _ _) ?k1 ?k2 ?k3 ?k4 ?k5 ?kK ?kd ?ku ?_; (case k1 => k_asm); (case k2 => k_asm); (case k3 => k_asm); (case k4 => k_asm); (case k5 => k_asm); (case kK => first | exact rfl | assumption); (case kd => first | ((with_reducible refine' room_dp ?rdh ?rdk); (case rdh => with_reducible assumption); (case rdk => decide)) | ktr_room); (case ku => first | ((with_reducible refine' room_un ?ruh ?ruk); (case ruh => with_reducible assumption); (case ruk => decide)) | ktr_units); intro t9 h9 tk9 F9 N9; (try dsimp only); (try k_fold))))
local macro_rules | `(tactic| walk_at "call ref") => `(tactic| (k_here; (with_reducible show wpAny _ _ (PySem.call (Value.ref 57) [Value.int _ _, Value.int _ _, Value.int _ _]) _ _ _); k_dflt (refine' use (c_legal_greg _ _ _ _ _ _ ?h1 ?h2 ?h3 ?h4 ?h5) ?k1 ?k2 ?k3 ?k4 ?k5 ?kK ?kd ?ku ?_; (case k1 => k_asm); (case k2 => k_asm); (case k3 => k_asm); (case k4 => k_asm); (case k5 => k_asm); (case kK => first | exact rfl | assumption); (case kd => first | ((with_reducible refine' room_dp ?rdh ?rdk); (case rdh => with_reducible assumption); (case rdk => decide)) | ktr_room); (case ku => first | ((with_reducible refine' room_un ?ruh ?ruk); (case ruh => with_reducible assumption); (case ruk => decide)) | ktr_units); (case h1 => (law_clear; first | omega | ((try simp only [decide_eq_true_eq, decide_eq_false_iff_not, gj, ij, cj, jj, aj, sj, leapS] at *); first | done | omega))); (case h2 => (law_clear; first | omega | ((try simp only [decide_eq_true_eq, decide_eq_false_iff_not, gj, ij, cj, jj, aj, sj, leapS] at *); first | done | omega))); (case h3 => (law_clear; first | omega | ((try simp only [decide_eq_true_eq, decide_eq_false_iff_not, gj, ij, cj, jj, aj, sj, leapS] at *); first | done | omega))); (case h4 => (law_clear; first | omega | ((try simp only [decide_eq_true_eq, decide_eq_false_iff_not, gj, ij, cj, jj, aj, sj, leapS] at *); first | done | omega))); (case h5 => (law_clear; first | omega | ((try simp only [decide_eq_true_eq, decide_eq_false_iff_not, gj, ij, cj, jj, aj, sj, leapS] at *); first | done | omega))); intro t9 h9 tk9 F9 N9; (try dsimp only); (try k_fold))))
local macro_rules | `(tactic| walk_at "eval Name") => `(tactic| (k_here; k_dflt (first | (name_kind "local"; refine' nameX_L ?F ?v ?_ ?a ?b ?c; (case F => k_asm); (case a => kernel_rfl); (case b => kernel_rfl); (case c => kernel_rfl); (case v => first | (refine' look_of ?gg ?ge; (case gg => (repeat (first | (with_reducible exact guess_hit_l) | (with_reducible apply guess_miss_l) | (with_reducible exact guess_hit_if) | ((with_reducible show Guess (@ite _ _ _ _ _) _); (with_reducible apply guess_miss_if))))); (case ge => kernel_rfl)) | exact rfl)) | (name_kind "globalImplicit"; refine' nameX_K ?F ?X ?T ?e ?_ ?a ?b ?c; (case F => k_asm); (case X => k_asm); (case T => k_asm); (case e => with_reducible (first | exact gn_legal_date_gregorian _ | exact gn_isleap _ | exact gn_floor _ | exact gn_INTERCALATION_CYCLE_YEARS _ | exact gn_EPOCH_gregorian _ | exact gn_YEAR_DAYS _ | exact gn_LEAP_CYCLE_YEARS _ | exact gn_LEAP_SUPPRESSION_YEARS _)); (case a => kernel_rfl); (case b => kernel_rfl); (case c => kernel_rfl)))))
set_option maxRecDepth 100000 in
set_option maxHeartbeats 8000000 in
theorem c_tojd_greg (y m d : Int) (t u v : Tok) (hy : -30000000 < y ∧ y < 30000000) (hm : 1 ≤ m ∧ m ≤ 12) (h1 : 1 ≤ d) (h2 : d ≤ 31) (h3 : m ≠ 2 ∨ d ≤ 29) (h4 : m ≠ 2 ∨ (y % 4 = 0 ∧ (y % 100 ≠ 0 ∨ y % 400 = 0)) ∨ d ≤ 28) (h5 : ¬ (m = 4 ∨ m = 6 ∨ m = 9 ∨ m = 11) ∨ d ≤ 30) :
    Claim 64 [.int y t, .int m u, .int d v] 3 (RetV fun t => .float (H (2 * gj y m d - 1)) t) := by
  refine gate_out ?_
  simp (disch := (k_dflt (
  intro prog w p loose mean mg mb dp un gd cn cs a ccd cl outer A₀ base h₀ L mm news s Q E B F X N T hk hdp hun hret
  obtain ⟨la, hla⟩ : ∃ la : Int, la = if m ≤ 2 then 0 else if y % 4 = 0 ∧ (y % 100 ≠ 0 ∨ y % 400 = 0) then -1 else -2 := ⟨_, rfl⟩
  have hg : gj y m d = 1721425 + 365 * (y - 1) + (y - 1) / 4 - (y - 1) / 100 + (y - 1) / 400 + (367 * m - 362) / 12 + la + d := by unfold gj; rw [hla]
  have hla2 : -2 ≤ la ∧ la ≤ 0 := by split at hla <;> (try split at hla) <;> omega
  have hj1 : JoinAt 26 (Str.ofString "leap_adj") la := ⟨⟩
  (refine wpAny_call ?_; (k_dflt cell_enter); (try ((rename Fr _ _ _ _ => F8); (first | (have F9 := Fr_as F8 (m' := fun y9 => List.lookup y9 [(Str.ofString "day", (.int d v : Value)), (Str.ofString "month", (.int m u : Value)), (Str.ofString "year", (.int y t : Value))]) rfl) | (have F9 := Fr_as F8 (m' := fun y9 => List.lookup y9 [(Str.ofString "year", (.int y t : Value)), (Str.ofString "month", (.int m u : Value)), (Str.ofString "day", (.int d v : Value))]) rfl)); clear F8));  k_steps; all_goals first | (refine' join_end ?jF ?jN ?jm ?jk; (case jF => k_asm); (case jN => k_asm); (case jm => first | (intro y; exact rfl) | exact join_same rfl); (case jk => (law_clear; first | omega | ((repeat' split at *) <;> omega)))) | (refine' ret_F hret ?e1 ?e2 ?e3; (case e2 => k_asm); (case e3 => first | k_asm | (refine' cb_drop ?cbN ?cbS; (case cbN => assumption); (case cbS => (first | (intro p9 hp9; (repeat (with_reducible refine List.mem_cons_of_mem _ ?_)); exact hp9) | kcj_all)))); (case e1 => (law_clear; (try simp only [decide_eq_true_eq, decide_eq_false_iff_not] at *); omega))))))) only [↓gate_true]
end
section
local macro_rules | `(tactic| walk_at "eval Name") => `(tactic| (k_here; k_dflt (first | (name_kind "local"; refine' nameX_L ?F ?v ?_ ?a ?b ?c; (case F => k_asm); (case a => kernel_rfl); (case b => kernel_rfl); (case c => kernel_rfl); (case v => first | (refine' look_of ?gg ?ge; (case gg => (repeat (first | (with_reducible exact guess_hit_l) | (with_reducible apply guess_miss_l) | (with_reducible exact guess_hit_if) | ((with_reducible show Guess (@ite _ _ _ _ _) _); (with_reducible apply guess_miss_if))))); (case ge => kernel_rfl)) | exact rfl)))))
set_option maxRecDepth 100000 in
set_option maxHeartbeats 8000000 in
theorem c_leap_isl (y : Int) (t : Tok) :
    Claim 79 [.int y t] 1 (RetV fun _ => .bool (decide ((11 * y + 14) % 30 < 11))) := by
  refine gate_out ?_
  simp (disch := (k_dflt (
  intro prog w p loose mean mg mb dp un gd cn cs a ccd cl outer A₀ base h₀ L mm news s Q E B F X N T hk hdp hun hret
  (refine wpAny_call ?_; (k_dflt cell_enter); (try ((rename Fr _ _ _ _ => F8); (first | (have F9 := Fr_as F8 (m' := fun y9 => List.lookup y9 [(Str.ofString "year", (.int y t : Value))]) rfl) | (have F9 := Fr_as F8 (m' := fun y9 => List.lookup y9 [(Str.ofString "year", (.int y t : Value))]) rfl)); clear F8));  k_steps; all_goals (first | (((first | (with_reducible refine' hret 0 ?_ ?_ ?cbF ?cbN) | (with_reducible refine' hret _ ?_ ?_ ?cbF ?cbN))); (case cbF => k_asm); (case cbN => first | (with_reducible assumption) | (refine' cb_drop ?cbM ?cbS; (case cbM => assumption); (case cbS => (first | (intro p9 hp9; (repeat (with_reducible refine List.mem_cons_of_mem _ ?_)); exact hp9) | kcj_all))))) | cb_end hret))))) only [↓gate_true]
end
section
local macro_rules | `(tactic| walk_at "pad") => `(tactic| fail)
local macro_rules | `(tactic| walk_at "eval Name") => `(tactic| (k_here; k_dflt (first | (name_kind "local"; refine' nameX_L ?F ?v ?_ ?a ?b ?c; (case F => k_asm); (case a => kernel_rfl); (case b => kernel_rfl); (case c => kernel_rfl); (case v => first | (refine' look_of ?gg ?ge; (case gg => (repeat (first | (with_reducible exact guess_hit_l) | (with_reducible apply guess_miss_l) | (with_reducible exact guess_hit_if) | ((with_reducible show Guess (@ite _ _ _ _ _) _); (with_reducible apply guess_miss_if))))); (case ge => kernel_rfl)) | exact rfl)) | (name_kind "globalImplicit"; refine' nameX_K ?F ?X ?T ?e ?_ ?a ?b ?c; (case F => k_asm); (case X => k_asm); (case T => k_asm); (case e => with_reducible (first | exact gn_EPOCH_islamic _ | exact gn_floor _ | exact gn_ceil _)); (case a => kernel_rfl); (case b => kernel_rfl); (case c => kernel_rfl)))))
set_option maxRecDepth 100000 in
set_option maxHeartbeats 8000000 in
theorem c_tojd_isl (y m d : Int) (t u v : Tok) (hy : -30000000 < y ∧ y < 30000000) (hm : 1 ≤ m ∧ m ≤ 13) (hd : 0 ≤ d ∧ d ≤ 100) :
    Claim 86 [.int y t, .int m u, .int d v] 2 (RetV fun t => .float (H (2 * ij y m d - 1)) t) := by
  refine gate_out ?_
  simp (disch := (k_dflt (
  intro prog w p loose mean mg mb dp un gd cn cs a ccd cl outer A₀ base h₀ L mm news s Q E B F X N T hk hdp hun hret
  (refine wpAny_call ?_; (k_dflt cell_enter); (try ((rename Fr _ _ _ _ => F8); (first | (have F9 := Fr_as F8 (m' := fun y9 => List.lookup y9 [(Str.ofString "day", (.int d v : Value)), (Str.ofString "month", (.int m u : Value)), (Str.ofString "year", (.int y t : Value))]) rfl) | (have F9 := Fr_as F8 (m' := fun y9 => List.lookup y9 [(Str.ofString "year", (.int y t : Value)), (Str.ofString "month", (.int m u : Value)), (Str.ofString "day", (.int d v : Value))]) rfl)); clear F8));  k_steps; all_goals (refine' ret_F hret ?e1 ?e2 ?e3; (case e2 => k_asm); (case e3 => first | k_asm | (refine' cb_drop ?cbN ?cbS; (case cbN => assumption); (case cbS => (first | (intro p9 hp9; (repeat (with_reducible refine List.mem_cons_of_mem _ ?_)); exact hp9) | kcj_all)))); (case e1 => (law_clear; (try simp only [decide_eq_true_eq, decide_eq_false_iff_not] at *); (unfold ij; omega)))))))) only [↓gate_true]
end
section
local macro_rules | `(tactic| walk_at "pad") => `(tactic| fail)
local macro_rules | `(tactic| walk_at "call ref") => `(tactic| (k_here; (with_reducible show wpAny _ _ (PySem.call (Value.ref 86) [Value.int _ _, Value.int _ _, Value.int _ _]) _ _ _); k_dflt (refine' use (c_tojd_isl _ _ _ _ _ _ ?hy ?hm ?hd) ?k1 ?k2 ?k3 ?k4 ?k5 ?kK ?kd ?ku ?_; (case k1 => k_asm); (case k2 => k_asm); (case k3 => k_asm); (case k4 => k_asm); (case k5 => k_asm); (case kK => first | exact rfl | assumption); (case kd => first | ((with_reducible refine' room_dp ?rdh ?rdk); (case rdh => with_reducible assumption); (case rdk => decide)) | ktr_room); (case ku => first | ((with_reducible refine' room_un ?ruh ?ruk); (case ruh => with_reducible assumption); (case ruk => decide)) | ktr_units); (case hy => (law_clear; first | omega | ((try simp only [decide_eq_true_eq, decide_eq_false_iff_not, gj, ij, cj, jj, aj, sj, leapS] at *); first | done | omega))); (case hm => (law_clear; first | omega | ((try simp only [decide_eq_true_eq, decide_eq_false_iff_not, gj, ij, cj, jj, aj, sj, leapS] at *); first | done | omega))); (case hd => (law_clear; first | omega | ((try simp only [decide_eq_true_eq, decide_eq_false_iff_not, gj, ij, cj, jj, aj, sj, leapS] at *); first | done | omega))); intro t9 h9 tk9 F9 N9; (try dsimp only); (try k_fold))))
local macro_rules | `(tactic| walk_at "eval Name") => `(tactic| (k_here; k_dflt (first | (name_kind "local"; refine' nameX_L ?F ?v ?_ ?a ?b ?c; (case F => k_asm); (case a => kernel_rfl); (case b => kernel_rfl); (case c => kernel_rfl); (case v => first | (refine' look_of ?gg ?ge; (case gg => (repeat (first | (with_reducible exact guess_hit_l) | (with_reducible apply guess_miss_l) | (with_reducible exact guess_hit_if) | ((with_reducible show Guess (@ite _ _ _ _ _) _); (with_reducible apply guess_miss_if))))); (case ge => kernel_rfl)) | exact rfl)) | (name_kind "globalImplicit"; refine' nameX_K ?F ?X ?T ?e ?_ ?a ?b ?c; (case F => k_asm); (case X => k_asm); (case T => k_asm); (case e => with_reducible (first | exact gn_floor _ | exact gn_ceil _ | exact gn_to_jd_islamic _ | exact gn_EPOCH_islamic _)); (case a => kernel_rfl); (case b => kernel_rfl); (case c => kernel_rfl)) | (name_kind "globalImplicit"; refine' nameX_B ?F ?X ?T ?e ?v ?n ?_ ?a ?b ?c; (case F => k_asm); (case X => k_asm); (case T => k_asm); (case e => with_reducible (first | exact gb_min _ | exact gb_int _)); (case v => with_reducible (first | exact bb_min | exact bb_int)); (case a => kernel_rfl); (case b => kernel_rfl); (case n => decide); (case c => kernel_rfl)))))
set_option maxRecDepth 100000 in
set_option maxHeartbeats 8000000 in
theorem c_fromjd_isl (day : Int) (t : Tok) (hd : -10000000000 < day ∧ day < 10000000000) :
    Claim 93 [.float (H (2 * day - 1)) t] 3 (RetT3 (islY day) (islM day) (islD day)) := by
  refine gate_out ?_
  simp (disch := (k_dflt (
  intro prog w p loose mean mg mb dp un gd cn cs a ccd cl outer A₀ base h₀ L mm news s Q E B F X N T hk hdp hun hret
  obtain ⟨f1, f2, f3, f4, f5⟩ := isl_year day
  obtain ⟨g1, g2, g3, g4, g5, _⟩ := isl_month day
  generalize islY day = Y at *
  generalize islR day = R at *
  generalize islS day = S at *
  generalize islM day = M at *
  generalize islD day = D at *
  (refine wpAny_call ?_; (k_dflt cell_enter); (try ((rename Fr _ _ _ _ => F8); (first | (have F9 := Fr_as F8 (m' := fun y9 => List.lookup y9 [(Str.ofString "jd", (.float (H (2 * day - 1)) t : Value))]) rfl) | (have F9 := Fr_as F8 (m' := fun y9 => List.lookup y9 [(Str.ofString "jd", (.float (H (2 * day - 1)) t : Value))]) rfl)); clear F8));  k_steps; all_goals (refine' ret_T3 hret ?e1 ?e2 ?e3 ?F ?NM ?hs; (case F => k_asm); (case NM => (refine' ⟨?n1, ?n2⟩; (case n1 => k_asm); (case n2 => k_mem))); (case hs => (first | (intro p9 hp9; (repeat (with_reducible refine List.mem_cons_of_mem _ ?_)); exact hp9) | kcj_all)); (case e1 => (law_clear; (try simp only [decide_eq_true_eq, decide_eq_false_iff_not] at *); omega)); (case e2 => (law_clear; (try simp only [decide_eq_true_eq, decide_eq_false_iff_not] at *); (unfold ij; (have hy : (30 * (2 * ((2 * day - 1) / 2) + 1 - 3896879) + 2 * 10646) / (2 * 10631) = Y := by omega); (have hd9 : (2 * day - 1) / 2 = day - 1 := by omega); rw [hy, hd9]; (have hq : 2 * (day - 1) + 1 - (2 * 29 + (2 * (1 + (59 * (1 - 1) + 1) / 2 + 354 * (Y - 1) + (3 + 11 * Y) / 30 + 1948439) - 1)) = 2 * R - 58 := by omega); (have hm : (if -(-(2 * R - 58) / 59) + 1 < 12 then -(-(2 * R - 58) / 59) + 1 else 12) = M := by split <;> omega); rw [hq, hm];  done))); (case e3 => (law_clear; (try simp only [decide_eq_true_eq, decide_eq_false_iff_not] at *); (unfold ij; (have hy : (30 * (2 * ((2 * day - 1) / 2) + 1 - 3896879) + 2 * 10646) / (2 * 10631) = Y := by omega); (have hd9 : (2 * day - 1) / 2 = day - 1 := by omega); rw [hy, hd9]; (have hq : 2 * (day - 1) + 1 - (2 * 29 + (2 * (1 + (59 * (1 - 1) + 1) / 2 + 354 * (Y - 1) + (3 + 11 * Y) / 30 + 1948439) - 1)) = 2 * R - 58 := by omega); (have hm : (if -(-(2 * R - 58) / 59) + 1 < 12 then -(-(2 * R - 58) / 59) + 1 else 12) = M := by split <;> omega); rw [hq, hm];  omega)))))))) only [↓gate_true]
end
section
local macro_rules | `(tactic| walk_at "pad") => `(tactic| fail)
local macro_rules | `(tactic| walk_at "call ref") => `(tactic| (k_here; (with_reducible show wpAny _ _ (PySem.call (Value.ref 50) [Value.int _ _]) _ _ _); k_dflt (refine' use (c_isleap _ _) ?k1 ?k2 ?k3 ?k4 ?k5 ?kK ?kd ?ku ?_; (case k1 => k_asm); (case k2 => k_asm); (case k3 => k_asm); (case k4 => k_asm); (case k5 => k_asm); (case kK => first | exact rfl | assumption); (case kd => first | ((with_reducible refine' room_dp ?rdh ?rdk); (case rdh => with_reducible assumption); (case rdk => decide)) | ktr_room); (case ku => first | ((with_reducible refine' room_un ?ruh ?ruk); (case ruh => with_reducible assumption); (case ruk => decide)) | ktr_units); intro t9 h9 tk9 F9 N9; (try dsimp only); (try k_fold))))
local macro_rules | `(tactic| walk_at "call ref") => `(tactic| (k_here; (with_reducible show wpAny _ _ (PySem.call (Value.ref 64) [Value.int _ _, Value.int _ _, Value.int _ _]) _ _ _); k_dflt (refine' use (c_tojd_greg _ _ _ _ _ _ ?hy ?hm ?h1 ?h2 ?h3 ?h4 ?h5) ?k1 ?k2 ?k3 ?k4 ?k5 ?kK ?kd ?ku ?_; (case k1 => k_asm); (case k2 => k_asm); (case k3 => k_asm); (case k4 => k_asm); (case k5 => k_asm); (case kK => first | exact rfl | assumption); (case kd => first | ((with_reducible refine' room_dp ?rdh ?rdk); (case rdh => with_reducible assumption); (case rdk => decide)) | ktr_room); (case ku => first | ((with_reducible refine' room_un ?ruh ?ruk); (case ruh => with_reducible assumption); (case ruk => decide)) | ktr_units); (case hy => (law_clear; first | omega | ((try simp only [decide_eq_true_eq, decide_eq_false_iff_not, gj, ij, cj, jj, aj, sj, leapS] at *); first | done | omega))); (case hm => (law_clear; first | omega | ((try simp only [decide_eq_true_eq, decide_eq_false_iff_not, gj, ij, cj, jj, aj, sj, leapS] at *); first | done | omega))); (case h1 => (law_clear; first | omega | ((try simp only [decide_eq_true_eq, decide_eq_false_iff_not, gj, ij, cj, jj, aj, sj, leapS] at *); first | done | omega))); (case h2 => (law_clear; first | omega | ((try simp only [decide_eq_true_eq, decide_eq_false_iff_not, gj, ij, cj, jj, aj, sj, leapS] at *); first | done | omega))); (case h3 => (law_clear; first | omega | ((try simp only [decide_eq_true_eq, decide_eq_false_iff_not, gj, ij, cj, jj, aj, sj, leapS] at *); first | done | omega))); (case h4 => (law_clear; first | omega | ((try simp only [decide_eq_true_eq, decide_eq_false_iff_not, gj, ij, cj, jj, aj, sj, leapS] at *); first | done | omega))); (case h5 => (law_clear; first | omega | ((try simp only [decide_eq_true_eq, decide_eq_false_iff_not, gj, ij, cj, jj, aj, sj, leapS] at *); first | done | omega))); intro t9 h9 tk9 F9 N9; (try dsimp only); (try k_fold))))
local macro_rules | `(tactic| walk_at "eval Name") => `(tactic| (k_here; k_dflt (first | (name_kind "local"; refine' nameX_L ?F ?v ?_ ?a ?b ?c; (case F => k_asm); (case a => kernel_rfl); (case b => kernel_rfl); (case c => kernel_rfl); (case v => first | (refine' look_of ?gg ?ge; (case gg => (repeat (first | (with_reducible exact guess_hit_l) | (with_reducible apply guess_miss_l) | (with_reducible exact guess_hit_if) | ((with_reducible show Guess (@ite _ _ _ _ _) _); (with_reducible apply guess_miss_if))))); (case ge => kernel_rfl)) | exact rfl)) | (name_kind "globalImplicit"; refine' nameX_K ?F ?X ?T ?e ?_ ?a ?b ?c; (case F => k_asm); (case X => k_asm); (case T => k_asm); (case e => with_reducible (first | exact gn_EPOCH_gregorian _ | exact gn_floor _ | exact gn_INTERCALATION_CYCLE_DAYS _ | exact gn_LEAP_SUPPRESSION_DAYS _ | exact gn_LEAP_CYCLE_DAYS _ | exact gn_isleap _ | exact gn_YEAR_DAYS _ | exact gn_to_jd_gregorian _ | exact gn_LEAP_CYCLE_YEARS _ | exact gn_INTERCALATION_CYCLE_YEARS _ | exact gn_LEAP_SUPPRESSION_YEARS _)); (case a => kernel_rfl); (case b => kernel_rfl); (case c => kernel_rfl)) | (name_kind "globalImplicit"; refine' nameX_B ?F ?X ?T ?e ?v ?n ?_ ?a ?b ?c; (case F => k_asm); (case X => k_asm); (case T => k_asm); (case e => with_reducible (first | exact gb_int _)); (case v => with_reducible (first | exact bb_int)); (case a => kernel_rfl); (case b => kernel_rfl); (case n => decide); (case c => kernel_rfl)))))
set_option maxRecDepth 100000 in
set_option maxHeartbeats 8000000 in
theorem c_fromjd_greg (day : Int) (t : Tok) (hd : -10000000000 < day ∧ day < 10000000000) :
    Claim 71 [.float (H (2 * day - 1)) t] 4 (RetT3 (romY day) (romM day) (romD day)) := by
  refine gate_out ?_
  simp (disch := (k_dflt (
  intro prog w p loose mean mg mb dp un gd cn cs a ccd cl outer A₀ base h₀ L mm news s Q E B F X N T hk hdp hun hret
  have hd9 : -10000000000 < day ∧ day < 10000000000 := hd
  obtain ⟨f1, f2, f3, _⟩ := rom_year day
  obtain ⟨g1, g2, g3, g4, g5, g6, g7, g8, g9, g10⟩ := rom_month day
  have hS := leapS_or (romY day)
  obtain ⟨X, hX⟩ : ∃ X, X = day - 1721426 := ⟨_, rfl⟩
  obtain ⟨L, hL⟩ : ∃ L, X / 146097 = L := ⟨_, rfl⟩
  obtain ⟨rr, hrr⟩ : ∃ rr, X % 146097 = rr := ⟨_, rfl⟩
  obtain ⟨CC, hCC⟩ : ∃ CC, rr / 36524 = CC := ⟨_, rfl⟩
  obtain ⟨r1, hr1⟩ : ∃ r1, rr % 36524 = r1 := ⟨_, rfl⟩
  obtain ⟨QQ, hQQ⟩ : ∃ QQ, r1 / 1461 = QQ := ⟨_, rfl⟩
  obtain ⟨r2, hr2⟩ : ∃ r2, r1 % 1461 = r2 := ⟨_, rfl⟩
  obtain ⟨JJ, hJJ⟩ : ∃ JJ, r2 / 365 = JJ := ⟨_, rfl⟩
  have hc := rom_float day X L rr CC r1 QQ r2 JJ hX hL hrr hCC hr1 hQQ hr2 hJJ
  generalize romY day = Y at *
  generalize romR day = R at *
  generalize romM day = M at *
  generalize romD day = D at *
  generalize leapS Y = S at *
  have hYb : -30000000 < Y ∧ Y < 30000000 := by omega
  have e0 : Hint ((2 * day - 1 - 1) / 2) (day - 1) := ⟨by omega⟩
  have eA : Hint (2 * (day - 1) + 1) (2 * day - 1) := ⟨by omega⟩
  have eB : Hint (2 * day - 1 - 3442851) (2 * X) := ⟨by omega⟩
  have eL : Hint (2 * X / (2 * 146097)) (L) := ⟨by omega⟩
  have eR : Hint (2 * X % (2 * 146097)) (2 * rr) := ⟨by omega⟩
  have eC : Hint (2 * rr / (2 * 36524)) (CC) := ⟨by omega⟩
  have eR1 : Hint (2 * rr % (2 * 36524)) (2 * r1) := ⟨by omega⟩
  have eQ : Hint (2 * r1 / (2 * 1461)) (QQ) := ⟨by omega⟩
  have eR2 : Hint (2 * r1 % (2 * 1461)) (2 * r2) := ⟨by omega⟩
  have eJ : Hint (2 * r2 / (2 * 365)) (JJ) := ⟨by omega⟩
  have b1 : 0 ≤ rr ∧ rr < 146097 ∧ 0 ≤ r1 ∧ r1 < 36524 ∧ 0 ≤ r2 ∧ r2 < 1461 ∧ 0 ≤ CC ∧ CC ≤ 4 ∧ 0 ≤ JJ ∧ JJ ≤ 4 ∧ 0 ≤ QQ ∧ QQ ≤ 24 ∧ -100000 < L ∧ L < 100000 ∧ -20000000000 < X ∧ X < 20000000000 := by omega
  have eD : Hint (2 * day - 1 - (2 * gj Y 1 1 - 1)) (2 * R) := ⟨by unfold gj; simp; omega⟩
  have gb1 : -20000000000 < gj Y 1 1 ∧ gj Y 1 1 < 20000000000 := by have := eD.eq; omega
  have eDD : Hint (2 * day - 1 - (2 * gj Y M 1 - 1)) (2 * (D - 1)) := by
    refine ⟨?_⟩
    unfold gj
    rcases hS with ⟨h1, h2⟩ | ⟨h1, h2⟩
    · rw [if_pos h2]; split <;> omega
    · rw [if_neg h2]; split <;> omega
  have gb2 : -20000000000 < gj Y M 1 ∧ gj Y M 1 < 20000000000 := by have := eDD.eq; omega
  have eI : Hint (2 * (D - 1) / 2) (D - 1) := ⟨by omega⟩
  have eP : Hint (D - 1 + 1) (D) := ⟨by omega⟩
  clear hL hrr hCC hr1 hQQ hr2 hJJ hX hd
  obtain ⟨la, hla⟩ : ∃ la : Int, la = if R < S - 307 then 0 else if S = 366 then 1 else 2 := ⟨_, rfl⟩
  have hM : Hint ((12 * (2 * R + 2 * la) + 2 * 373) / (2 * 367)) M := ⟨by split at g3 <;> split at hla <;> (try split at hla) <;> omega⟩
  have hSl : Hint (58 + (if decide (Y % 4 = 0 ∧ (Y % 100 ≠ 0 ∨ Y % 400 = 0)) = true then (1 : Int) else 0)) (S - 307) := by
    refine ⟨?_⟩
    rcases hS with ⟨h1, h2⟩ | ⟨h1, h2⟩ <;> simp [h1, h2]
  have hla2 : 0 ≤ la ∧ la ≤ 2 := by split at hla <;> (try split at hla) <;> omega
  clear g3 g4 g5 g6 g9 g10
  have hj2 : JoinAt 49 (Str.ofString "leap_adj") la := ⟨⟩
  have hj1 : JoinAt 45 (Str.ofString "year") Y := ⟨⟩
  (refine wpAny_call ?_; (k_dflt cell_enter); (try ((rename Fr _ _ _ _ => F8); (first | (have F9 := Fr_as F8 (m' := fun y9 => List.lookup y9 [(Str.ofString "jd", (.float (H (2 * day - 1)) t : Value))]) rfl) | (have F9 := Fr_as F8 (m' := fun y9 => List.lookup y9 [(Str.ofString "jd", (.float (H (2 * day - 1)) t : Value))]) rfl)); clear F8));  k_steps; all_goals first | (refine' join_end ?jF ?jN ?jm ?jk; (case jF => k_asm); (case jN => k_asm); (case jm => first | (intro y; exact rfl) | exact join_same rfl); (case jk => (law_clear; first | omega | ((repeat' split at *) <;> omega)))) | (refine' ret_T3 hret ?e1 ?e2 ?e3 ?F ?NM ?hs; (case F => k_asm); (case NM => (refine' ⟨?n1, ?n2⟩; (case n1 => k_asm); (case n2 => k_mem))); (case hs => (first | (intro p9 hp9; (repeat (with_reducible refine List.mem_cons_of_mem _ ?_)); exact hp9) | kcj_all)); (case e1 => (with_reducible exact rfl)); (case e2 => (with_reducible exact rfl)); (case e3 => (with_reducible exact rfl))))))) only [↓gate_true]
end
theorem c_tojd_rom (day : Int) (t u v : Tok) (hd : -10000000000 < day ∧ day < 10000000000) :
    Claim 64 [.int (romY day) t, .int (romM day) u, .int (romD day) v] 3 (RetV fun t => .float (H (2 * day - 1)) t) := by
  have e := gj_rom day
  obtain ⟨f1, f2, f3, _⟩ := rom_year day
  obtain ⟨g1, g2, g3, g4, g5, g6, g7, g8, g9, g10⟩ := rom_month day
  have hS := leapS_or (romY day)
  have h := c_tojd_greg (romY day) (romM day) (romD day) t u v (by clear g3 g4 g5 g6 g9 g10 e; omega) ⟨g1, g2⟩ g7 g8 (by clear g3 g4 g5 g6 g10 e f1; omega) (by clear g3 g4 g5 g6 g10 e f1; omega) g10
  rw [e] at h
  exact h
theorem c_tojd_isl_at (day : Int) (t u v : Tok) (hd : -10000000000 < day ∧ day < 10000000000) :
    Claim 86 [.int (islY day) t, .int (islM day) u, .int (islD day) v] 2 (RetV fun t => .float (H (2 * day - 1)) t) := by
  have e := ij_isl day
  obtain ⟨f1, f2, f3, f4, f5⟩ := isl_year day
  obtain ⟨g1, g2, g3, g4, g5, _⟩ := isl_month day
  have h := c_tojd_isl (islY day) (islM day) (islD day) t u v (by omega) ⟨g1, by omega⟩ (by omega)
  rw [e] at h
  exact h
section
local macro_rules | `(tactic| walk_at "pad") => `(tactic| fail)
local macro_rules | `(tactic| walk_at "call ref") => `(tactic| (k_here; (with_reducible show wpAny _ _ (PySem.call (Value.ref 64) [Value.int _ _, Value.int _ _, Value.int _ _]) _ _ _); k_dflt (refine' use (c_tojd_greg _ _ _ _ _ _ ?hy ?hm ?h1 ?h2 ?h3 ?h4 ?h5) ?k1 ?k2 ?k3 ?k4 ?k5 ?kK ?kd ?ku ?_; (case k1 => k_asm); (case k2 => k_asm); (case k3 => k_asm); (case k4 => k_asm); (case k5 => k_asm); (case kK => first | exact rfl | assumption); (case kd => first | ((with_reducible refine' room_dp ?rdh ?rdk); (case rdh => with_reducible assumption); (case rdk => decide)) | ktr_room); (case ku => first | ((with_reducible refine' room_un ?ruh ?ruk); (case ruh => with_reducible assumption); (case ruk => decide)) | ktr_units); (case hy => (law_clear; first | omega | ((try simp only [decide_eq_true_eq, decide_eq_false_iff_not, gj, ij, cj, jj, aj, sj, leapS] at *); first | done | omega))); (case hm => (law_clear; first | omega | ((try simp only [decide_eq_true_eq, decide_eq_false_iff_not, gj, ij, cj, jj, aj, sj, leapS] at *); first | done | omega))); (case h1 => (law_clear; first | omega | ((try simp only [decide_eq_true_eq, decide_eq_false_iff_not, gj, ij, cj, jj, aj, sj, leapS] at *); first | done | omega))); (case h2 => (law_clear; first | omega | ((try simp only [decide_eq_true_eq, decide_eq_false_iff_not, gj, ij, cj, jj, aj, sj, leapS] at *); first | done | omega))); (case h3 => (law_clear; first | omega | ((try simp only [decide_eq_true_eq, decide_eq_false_iff_not, gj, ij, cj, jj, aj, sj, leapS] at *); first | done | omega))); (case h4 => (law_clear; first | omega | ((try simp only [decide_eq_true_eq, decide_eq_false_iff_not, gj, ij, cj, jj, aj, sj, leapS] at *); first | done | omega))); (case h5 => (law_clear; first | omega | ((try simp only [decide_eq_true_eq, decide_eq_false_iff_not, gj, ij, cj, jj, aj, sj, leapS] at *); first | done | omega))); intro t9 h9 tk9 F9 N9; (try dsimp only); (try k_fold))))
local macro_rules | `(tactic| walk_at "call ref") => `(tactic| (k_here; (with_reducible show wpAny _ _ (PySem.call (Value.ref 93) [Value.float (H (2 * _ - 1)) _]) _ _ _); k_dflt (refine' use (c_fromjd_isl _ _ ?hd) ?k1 ?k2 ?k3 ?k4 ?k5 ?kK ?kd ?ku ?_; (case k1 => k_asm); (case k2 => k_asm); (case k3 => k_asm); (case k4 => k_asm); (case k5 => k_asm); (case kK => first | exact rfl | assumption); (case kd => first | ((with_reducible refine' room_dp ?rdh ?rdk); (case rdh => with_reducible assumption); (case rdk => decide)) | ktr_room); (case ku => first | ((with_reducible refine' room_un ?ruh ?ruk); (case ruh => with_reducible assumption); (case ruk => decide)) | ktr_units); (case hd => (law_clear; first | omega | ((try simp only [decide_eq_true_eq, decide_eq_false_iff_not, gj, ij, cj, jj, aj, sj, leapS] at *); first | done | omega))); intro D9 t9 u9 v9 h9 tk9 F9 N9; (try dsimp only); (try k_fold))))
local macro_rules | `(tactic| walk_at "call ref") => `(tactic| (k_here; (with_reducible show wpAny _ _ (PySem.call (Value.ref 64) [Value.int (romY _) _, Value.int (romM _) _, Value.int (romD _) _]) _ _ _); k_dflt (refine' use (c_tojd_rom _ _ _ _ ?hd) ?k1 ?k2 ?k3 ?k4 ?k5 ?kK ?kd ?ku ?_; (case k1 => k_asm); (case k2 => k_asm); (case k3 => k_asm); (case k4 => k_asm); (case k5 => k_asm); (case kK => first | exact rfl | assumption); (case kd => first | ((with_reducible refine' room_dp ?rdh ?rdk); (case rdh => with_reducible assumption); (case rdk => decide)) | ktr_room); (case ku => first | ((with_reducible refine' room_un ?ruh ?ruk); (case ruh => with_reducible assumption); (case ruk => decide)) | ktr_units); (case hd => (law_clear; first | omega | ((try simp only [decide_eq_true_eq, decide_eq_false_iff_not, gj, ij, cj, jj, aj, sj, leapS] at *); first | done | omega))); intro t9 h9 tk9 F9 N9; (try dsimp only); (try k_fold))))
local macro_rules | `(tactic| walk_at "eval Name") => `(tactic| (k_here; k_dflt (first | (name_kind "local"; refine' nameX_L ?F ?v ?_ ?a ?b ?c; (case F => k_asm); (case a => kernel_rfl); (case b => kernel_rfl); (case c => kernel_rfl); (case v => first | (refine' look_of ?gg ?ge; (case gg => (repeat (first | (with_reducible exact guess_hit_l) | (with_reducible apply guess_miss_l) | (with_reducible exact guess_hit_if) | ((with_reducible show Guess (@ite _ _ _ _ _) _); (with_reducible apply guess_miss_if))))); (case ge => kernel_rfl)) | exact rfl)) | (name_kind "globalImplicit"; refine' nameX_K ?F ?X ?T ?e ?_ ?a ?b ?c; (case F => k_asm); (case X => k_asm); (case T => k_asm); (case e => with_reducible (first | exact gn_from_jd_islamic _ | exact gn_to_jd_gregorian _)); (case a => kernel_rfl); (case b => kernel_rfl); (case c => kernel_rfl)))))
set_option maxRecDepth 100000 in
set_option maxHeartbeats 8000000 in
theorem c_fromgreg_isl (day : Int) (t u v : Tok) (hd : -10000000000 < day ∧ day < 10000000000) :
    Claim 100 [.int (romY day) t, .int (romM day) u, .int (romD day) v] 5 (RetT3 (islY day) (islM day) (islD day)) := by
  refine gate_out ?_
  simp (disch := (k_dflt (
  intro prog w p loose mean mg mb dp un gd cn cs a ccd cl outer A₀ base h₀ L mm news s Q E B F X N T hk hdp hun hret
  (refine wpAny_call ?_; (k_dflt cell_enter); (try ((rename Fr _ _ _ _ => F8); (first | (have F9 := Fr_as F8 (m' := fun y9 => List.lookup y9 [(Str.ofString "day", (.int (romD day) v : Value)), (Str.ofString "month", (.int (romM day) u : Value)), (Str.ofString "year", (.int (romY day) t : Value))]) rfl) | (have F9 := Fr_as F8 (m' := fun y9 => List.lookup y9 [(Str.ofString "year", (.int (romY day) t : Value)), (Str.ofString "month", (.int (romM day) u : Value)), (Str.ofString "day", (.int (romD day) v : Value))]) rfl)); clear F8));  k_steps; all_goals (refine' ret_T3 hret ?e1 ?e2 ?e3 ?F ?NM ?hs; (case F => k_asm); (case NM => (refine' ⟨?n1, ?n2⟩; (case n1 => k_asm); (case n2 => k_mem))); (case hs => (first | (intro p9 hp9; (repeat (with_reducible refine List.mem_cons_of_mem _ ?_)); exact hp9) | kcj_all)); (case e1 => (with_reducible exact rfl)); (case e2 => (with_reducible exact rfl)); (case e3 => (with_reducible exact rfl))))))) only [↓gate_true]
end
section
local macro_rules | `(tactic| walk_at "call ref") => `(tactic| (k_here; (with_reducible show wpAny _ _ (PySem.call (Value.ref 86) [Value.int _ _, Value.int _ _, Value.int _ _]) _ _ _); k_dflt (refine' use (c_tojd_isl _ _ _ _ _ _ ?hy ?hm ?hd) ?k1 ?k2 ?k3 ?k4 ?k5 ?kK ?kd ?ku ?_; (case k1 => k_asm); (case k2 => k_asm); (case k3 => k_asm); (case k4 => k_asm); (case k5 => k_asm); (case kK => first | exact rfl | assumption); (case kd => first | ((with_reducible refine' room_dp ?rdh ?rdk); (case rdh => with_reducible assumption); (case rdk => decide)) | ktr_room); (case ku => first | ((with_reducible refine' room_un ?ruh ?ruk); (case ruh => with_reducible assumption); (case ruk => decide)) | ktr_units); (case hy => (law_clear; first | omega | ((try simp only [decide_eq_true_eq, decide_eq_false_iff_not, gj, ij, cj, jj, aj, sj, leapS] at *); first | done | omega))); (case hm => (law_clear; first | omega | ((try simp only [decide_eq_true_eq, decide_eq_false_iff_not, gj, ij, cj, jj, aj, sj, leapS] at *); first | done | omega))); (case hd => (law_clear; first | omega | ((try simp only [decide_eq_true_eq, decide_eq_false_iff_not, gj, ij, cj, jj, aj, sj, leapS] at *); first | done | omega))); intro t9 h9 tk9 F9 N9; (try dsimp only); (try k_fold))))
local macro_rules | `(tactic| walk_at "call ref") => `(tactic| (k_here; (with_reducible show wpAny _ _ (PySem.call (Value.ref 71) [Value.float (H (2 * _ - 1)) _]) _ _ _); k_dflt (refine' use (c_fromjd_greg _ _ ?hd) ?k1 ?k2 ?k3 ?k4 ?k5 ?kK ?kd ?ku ?_; (case k1 => k_asm); (case k2 => k_asm); (case k3 => k_asm); (case k4 => k_asm); (case k5 => k_asm); (case kK => first | exact rfl | assumption); (case kd => first | ((with_reducible refine' room_dp ?rdh ?rdk); (case rdh => with_reducible assumption); (case rdk => decide)) | ktr_room); (case ku => first | ((with_reducible refine' room_un ?ruh ?ruk); (case ruh => with_reducible assumption); (case ruk => decide)) | ktr_units); (case hd => (law_clear; first | omega | ((try simp only [decide_eq_true_eq, decide_eq_false_iff_not, gj, ij, cj, jj, aj, sj, leapS] at *); first | done | omega))); intro D9 t9 u9 v9 h9 tk9 F9 N9; (try dsimp only); (try k_fold))))
local macro_rules | `(tactic| walk_at "call ref") => `(tactic| (k_here; (with_reducible show wpAny _ _ (PySem.call (Value.ref 86) [Value.int (islY _) _, Value.int (islM _) _, Value.int (islD _) _]) _ _ _); k_dflt (refine' use (c_tojd_isl_at _ _ _ _ ?hd) ?k1 ?k2 ?k3 ?k4 ?k5 ?kK ?kd ?ku ?_; (case k1 => k_asm); (case k2 => k_asm); (case k3 => k_asm); (case k4 => k_asm); (case k5 => k_asm); (case kK => first | exact rfl | assumption); (case kd => first | ((with_reducible refine' room_dp ?rdh ?rdk); (case rdh => with_reducible assumption); (case rdk => decide)) | ktr_room); (case ku => first | ((with_reducible refine' room_un ?ruh ?ruk); (case ruh => with_reducible assumption); (case ruk => decide)) | ktr_units); (case hd => (law_clear; first | omega | ((try simp only [decide_eq_true_eq, decide_eq_false_iff_not, gj, ij, cj, jj, aj, sj, leapS] at *); first | done | omega))); intro t9 h9 tk9 F9 N9; (try dsimp only); (try k_fold))))
local macro_rules | `(tactic| walk_at "eval Name") => `(tactic| (k_here; k_dflt (first | (name_kind "local"; refine' nameX_L ?F ?v ?_ ?a ?b ?c; (case F => k_asm); (case a => kernel_rfl); (case b => kernel_rfl); (case c => kernel_rfl); (case v => first | (refine' look_of ?gg ?ge; (case gg => (repeat (first | (with_reducible exact guess_hit_l) | (with_reducible apply guess_miss_l) | (with_reducible exact guess_hit_if) | ((with_reducible show Guess (@ite _ _ _ _ _) _); (with_reducible apply guess_miss_if))))); (case ge => kernel_rfl)) | exact rfl)) | (name_kind "globalImplicit"; refine' nameX_K ?F ?X ?T ?e ?_ ?a ?b ?c; (case F => k_asm); (case X => k_asm); (case T => k_asm); (case e => with_reducible (first | exact gn_from_jd_gregorian _ | exact gn_to_jd_islamic _)); (case a => kernel_rfl); (case b => kernel_rfl); (case c => kernel_rfl)))))
set_option maxRecDepth 100000 in
set_option maxHeartbeats 8000000 in
theorem c_togreg_isl (day : Int) (t u v : Tok) (hd : -10000000000 < day ∧ day < 10000000000) :
    Claim 107 [.int (islY day) t, .int (islM day) u, .int (islD day) v] 5 (RetT3 (romY day) (romM day) (romD day)) := by
  refine gate_out ?_
  simp (disch := (k_dflt (
  intro prog w p loose mean mg mb dp un gd cn cs a ccd cl outer A₀ base h₀ L mm news s Q E B F X N T hk hdp hun hret
  (refine wpAny_call ?_; (k_dflt cell_enter); (try ((rename Fr _ _ _ _ => F8); (first | (have F9 := Fr_as F8 (m' := fun y9 => List.lookup y9 [(Str.ofString "day", (.int (islD day) v : Value)), (Str.ofString "month", (.int (islM day) u : Value)), (Str.ofString "year", (.int (islY day) t : Value))]) rfl) | (have F9 := Fr_as F8 (m' := fun y9 => List.lookup y9 [(Str.ofString "year", (.int (islY day) t : Value)), (Str.ofString "month", (.int (islM day) u : Value)), (Str.ofString "day", (.int (islD day) v : Value))]) rfl)); clear F8));  k_steps; all_goals (refine' ret_T3 hret ?e1 ?e2 ?e3 ?F ?NM ?hs; (case F => k_asm); (case NM => (refine' ⟨?n1, ?n2⟩; (case n1 => k_asm); (case n2 => k_mem))); (case hs => (first | (intro p9 hp9; (repeat (with_reducible refine List.mem_cons_of_mem _ ?_)); exact hp9) | kcj_all)); (case e1 => (with_reducible exact rfl)); (case e2 => (with_reducible exact rfl)); (case e3 => (with_reducible exact rfl))))))) only [↓gate_true]
end
section
local macro_rules | `(tactic| walk_at "call ref") => `(tactic| (k_here; (with_reducible show wpAny _ _ (PySem.call (Value.ref 79) [Value.int _ _]) _ _ _); k_dflt (refine' use (c_leap_isl _ _) ?k1 ?k2 ?k3 ?k4 ?k5 ?kK ?kd ?ku ?_; (case k1 => k_asm); (case k2 => k_asm); (case k3 => k_asm); (case k4 => k_asm); (case k5 => k_asm); (case kK => first | exact rfl | assumption); (case kd => first | ((with_reducible refine' room_dp ?rdh ?rdk); (case rdh => with_reducible assumption); (case rdk => decide)) | ktr_room); (case ku => first | ((with_reducible refine' room_un ?ruh ?ruk); (case ruh => with_reducible assumption); (case ruk => decide)) | ktr_units); intro t9 h9 tk9 F9 N9; (try dsimp only); (try k_fold))))
local macro_rules | `(tactic| walk_at "eval Name") => `(tactic| (k_here; k_dflt (first | (name_kind "local"; refine' nameX_L ?F ?v ?_ ?a ?b ?c; (case F => k_asm); (case a => kernel_rfl); (case b => kernel_rfl); (case c => kernel_rfl); (case v => first | (refine' look_of ?gg ?ge; (case gg => (repeat (first | (with_reducible exact guess_hit_l) | (with_reducible apply guess_miss_l) | (with_reducible exact guess_hit_if) | ((with_reducible show Guess (@ite _ _ _ _ _) _); (with_reducible apply guess_miss_if))))); (case ge => kernel_rfl)) | exact rfl)) | (name_kind "globalImplicit"; refine' nameX_K ?F ?X ?T ?e ?_ ?a ?b ?c; (case F => k_asm); (case X => k_asm); (case T => k_asm); (case e => with_reducible (first | exact gn_HAS_30_DAYS _ | exact gn_leap_islamic _)); (case a => kernel_rfl); (case b => kernel_rfl); (case c => kernel_rfl)))))
set_option maxRecDepth 100000 in
set_option maxHeartbeats 8000000 in
theorem c_ml_isl (y m : Int) (t u : Tok) (hm : 1 ≤ m ∧ m ≤ 12) :
    Claim 114 [.int y t, .int m u] 3 (RetV fun t => .int (mli y m) t) := by
  refine gate_out ?_
  simp (disch := (k_dflt (
  intro prog w p loose mean mg mb dp un gd cn cs a ccd cl outer A₀ base h₀ L mm news s Q E B F X N T hk hdp hun hret
  (refine wpAny_call ?_; (k_dflt cell_enter); (try ((rename Fr _ _ _ _ => F8); (first | (have F9 := Fr_as F8 (m' := fun y9 => List.lookup y9 [(Str.ofString "month", (.int m u : Value)), (Str.ofString "year", (.int y t : Value))]) rfl) | (have F9 := Fr_as F8 (m' := fun y9 => List.lookup y9 [(Str.ofString "year", (.int y t : Value)), (Str.ofString "month", (.int m u : Value))]) rfl)); clear F8));  k_steps; all_goals (refine' cb_retI hret ?e1 ?e2 ?e3; (case e2 => k_asm); (case e3 => first | k_asm | (refine' cb_drop ?cbN ?cbS; (case cbN => assumption); (case cbS => (first | (intro p9 hp9; (repeat (with_reducible refine List.mem_cons_of_mem _ ?_)); exact hp9) | kcj_all)))); (case e1 => (law_clear; (try simp only [decide_eq_true_eq, decide_eq_false_iff_not, beq_iff_eq, bne_iff_ne, beq_eq_false_iff_ne] at *); unfold mli; (repeat' split) <;> omega))))))) only [↓gate_true]
end
section
local macro_rules | `(tactic| walk_at "eval Name") => `(tactic| (k_here; k_dflt (first | (name_kind "local"; refine' nameX_L ?F ?v ?_ ?a ?b ?c; (case F => k_asm); (case a => kernel_rfl); (case b => kernel_rfl); (case c => kernel_rfl); (case v => first | (refine' look_of ?gg ?ge; (case gg => (repeat (first | (with_reducible exact guess_hit_l) | (with_reducible apply guess_miss_l) | (with_reducible exact guess_hit_if) | ((with_reducible show Guess (@ite _ _ _ _ _) _); (with_reducible apply guess_miss_if))))); (case ge => kernel_rfl)) | exact rfl)))))
set_option maxRecDepth 100000 in
set_option maxHeartbeats 8000000 in
theorem c_leap_cop (y : Int) (t : Tok) :
    Claim 121 [.int y t] 1 (RetV fun _ => .bool (decide (y % 4 = 3))) := by
  refine gate_out ?_
  simp (disch := (k_dflt (
  intro prog w p loose mean mg mb dp un gd cn cs a ccd cl outer A₀ base h₀ L mm news s Q E B F X N T hk hdp hun hret
  (refine wpAny_call ?_; (k_dflt cell_enter); (try ((rename Fr _ _ _ _ => F8); (first | (have F9 := Fr_as F8 (m' := fun y9 => List.lookup y9 [(Str.ofString "year", (.int y t : Value))]) rfl) | (have F9 := Fr_as F8 (m' := fun y9 => List.lookup y9 [(Str.ofString "year", (.int y t : Value))]) rfl)); clear F8));  k_steps; all_goals (first | (((first | (with_reducible refine' hret 0 ?_ ?_ ?cbF ?cbN) | (with_reducible refine' hret _ ?_ ?_ ?cbF ?cbN))); (case cbF => k_asm); (case cbN => first | (with_reducible assumption) | (refine' cb_drop ?cbM ?cbS; (case cbM => assumption); (case cbS => (first | (intro p9 hp9; (repeat (with_reducible refine List.mem_cons_of_mem _ ?_)); exact hp9) | kcj_all))))) | cb_end hret))))) only [↓gate_true]
end
section
local macro_rules | `(tactic| walk_at "pad") => `(tactic| fail)
local macro_rules | `(tactic| walk_at "eval Name") => `(tactic| (k_here; k_dflt (first | (name_kind "local"; refine' nameX_L ?F ?v ?_ ?a ?b ?c; (case F => k_asm); (case a => kernel_rfl); (case b => kernel_rfl); (case c => kernel_rfl); (case v => first | (refine' look_of ?gg ?ge; (case gg => (repeat (first | (with_reducible exact guess_hit_l) | (with_reducible apply guess_miss_l) | (with_reducible exact guess_hit_if) | ((with_reducible show Guess (@ite _ _ _ _ _) _); (with_reducible apply guess_miss_if))))); (case ge => kernel_rfl)) | exact rfl)) | (name_kind "globalImplicit"; refine' nameX_K ?F ?X ?T ?e ?_ ?a ?b ?c; (case F => k_asm); (case X => k_asm); (case T => k_asm); (case e => with_reducible (first | exact gn_EPOCH_coptic _ | exact gn_floor _)); (case a => kernel_rfl); (case b => kernel_rfl); (case c => kernel_rfl)))))
set_option maxRecDepth 100000 in
set_option maxHeartbeats 8000000 in
theorem c_tojd_cop (y m d : Int) (t u v : Tok) (hy : -30000000 < y ∧ y < 30000000) (hm : 0 ≤ m ∧ m ≤ 20) (hd : 0 ≤ d ∧ d ≤ 100) :
    Claim 128 [.int y t, .int m u, .int d v] 2 (RetV fun t => .float (H (2 * cj y m d - 1)) t) := by
  refine gate_out ?_
  simp (disch := (k_dflt (
  intro prog w p loose mean mg mb dp un gd cn cs a ccd cl outer A₀ base h₀ L mm news s Q E B F X N T hk hdp hun hret
  (refine wpAny_call ?_; (k_dflt cell_enter); (try ((rename Fr _ _ _ _ => F8); (first | (have F9 := Fr_as F8 (m' := fun y9 => List.lookup y9 [(Str.ofString "day", (.int d v : Value)), (Str.ofString "month", (.int m u : Value)), (Str.ofString "year", (.int y t : Value))]) rfl) | (have F9 := Fr_as F8 (m' := fun y9 => List.lookup y9 [(Str.ofString "year", (.int y t : Value)), (Str.ofString "month", (.int m u : Value)), (Str.ofString "day", (.int d v : Value))]) rfl)); clear F8));  k_steps; all_goals (refine' ret_F hret ?e1 ?e2 ?e3; (case e2 => k_asm); (case e3 => first | k_asm | (refine' cb_drop ?cbN ?cbS; (case cbN => assumption); (case cbS => (first | (intro p9 hp9; (repeat (with_reducible refine List.mem_cons_of_mem _ ?_)); exact hp9) | kcj_all)))); (case e1 => (law_clear; (try simp only [decide_eq_true_eq, decide_eq_false_iff_not] at *); (unfold cj; omega)))))))) only [↓gate_true]
end
theorem c_tojd_cop_at (day : Int) (t u v : Tok) (hd : -10000000000 < day ∧ day < 10000000000) :
    Claim 128 [.int (copY day) t, .int (copM day) u, .int (copD day) v] 2 (RetV fun t => .float (H (2 * day - 1)) t) := by
  have e := cj_cop day
  obtain ⟨f1, f2, f3, f4⟩ := cop_year day
  obtain ⟨g1, g2⟩ := cop_month day
  have h := c_tojd_cop (copY day) (copM day) (copD day) t u v (by omega) (by omega) (by omega)
  rw [e] at h
  exact h
section
local macro_rules | `(tactic| walk_at "call ref") => `(tactic| (k_here; (with_reducible show wpAny _ _ (PySem.call (Value.ref 128) [Value.int _ _, Value.int _ _, Value.int _ _]) _ _ _); k_dflt (refine' use (c_tojd_cop _ _ _ _ _ _ ?hy ?hm ?hd) ?k1 ?k2 ?k3 ?k4 ?k5 ?kK ?kd ?ku ?_; (case k1 => k_asm); (case k2 => k_asm); (case k3 => k_asm); (case k4 => k_asm); (case k5 => k_asm); (case kK => first | exact rfl | assumption); (case kd => first | ((with_reducible refine' room_dp ?rdh ?rdk); (case rdh => with_reducible assumption); (case rdk => decide)) | ktr_room); (case ku => first | ((with_reducible refine' room_un ?ruh ?ruk); (case ruh => with_reducible assumption); (case ruk => decide)) | ktr_units); (case hy => (law_clear; first | omega | ((try simp only [decide_eq_true_eq, decide_eq_false_iff_not, gj, ij, cj, jj, aj, sj, leapS] at *); first | done | omega))); (case hm => (law_clear; first | omega | ((try simp only [decide_eq_true_eq, decide_eq_false_iff_not, gj, ij, cj, jj, aj, sj, leapS] at *); first | done | omega))); (case hd => (law_clear; first | omega | ((try simp only [decide_eq_true_eq, decide_eq_false_iff_not, gj, ij, cj, jj, aj, sj, leapS] at *); first | done | omega))); intro t9 h9 tk9 F9 N9; (try dsimp only); (try k_fold))))
local macro_rules | `(tactic| walk_at "call ref") => `(tactic| (k_here; (with_reducible show wpAny _ _ (PySem.call (Value.ref 128) [Value.int (copY _) _, Value.int (copM _) _, Value.int (copD _) _]) _ _ _); k_dflt (refine' use (c_tojd_cop_at _ _ _ _ ?hd) ?k1 ?k2 ?k3 ?k4 ?k5 ?kK ?kd ?ku ?_; (case k1 => k_asm); (case k2 => k_asm); (case k3 => k_asm); (case k4 => k_asm); (case k5 => k_asm); (case kK => first | exact rfl | assumption); (case kd => first | ((with_reducible refine' room_dp ?rdh ?rdk); (case rdh => with_reducible assumption); (case rdk => decide)) | ktr_room); (case ku => first | ((with_reducible refine' room_un ?ruh ?ruk); (case ruh => with_reducible assumption); (case ruk => decide)) | ktr_units); (case hd => (law_clear; first | omega | ((try simp only [decide_eq_true_eq, decide_eq_false_iff_not, gj, ij, cj, jj, aj, sj, leapS] at *); first | done | omega))); intro t9 h9 tk9 F9 N9; (try dsimp only); (try k_fold))))
local macro_rules | `(tactic| walk_at "eval Name") => `(tactic| (k_here; k_dflt (first | (name_kind "local"; refine' nameX_L ?F ?v ?_ ?a ?b ?c; (case F => k_asm); (case a => kernel_rfl); (case b => kernel_rfl); (case c => kernel_rfl); (case v => first | (refine' look_of ?gg ?ge; (case gg => (repeat (first | (with_reducible exact guess_hit_l) | (with_reducible apply guess_miss_l) | (with_reducible exact guess_hit_if) | ((with_reducible show Guess (@ite _ _ _ _ _) _); (with_reducible apply guess_miss_if))))); (case ge => kernel_rfl)) | exact rfl)) | (name_kind "globalImplicit"; refine' nameX_K ?F ?X ?T ?e ?_ ?a ?b ?c; (case F => k_asm); (case X => k_asm); (case T => k_asm); (case e => with_reducible (first | exact gn_floor _ | exact gn_to_jd_coptic _ | exact gn_EPOCH_coptic _)); (case a => kernel_rfl); (case b => kernel_rfl); (case c => kernel_rfl)) | (name_kind "globalImplicit"; refine' nameX_B ?F ?X ?T ?e ?v ?n ?_ ?a ?b ?c; (case F => k_asm); (case X => k_asm); (case T => k_asm); (case e => with_reducible (first | exact gb_int _)); (case v => with_reducible (first | exact bb_int)); (case a => kernel_rfl); (case b => kernel_rfl); (case n => decide); (case c => kernel_rfl)))))
set_option maxRecDepth 100000 in
set_option maxHeartbeats 8000000 in
theorem c_fromjd_cop (day : Int) (t : Tok) (hd : -10000000000 < day ∧ day < 10000000000) :
    Claim 135 [.float (H (2 * day - 1)) t] 3 (RetT3 (copY day) (copM day) (copD day)) := by
  refine gate_out ?_
  simp (disch := (k_dflt (
  intro prog w p loose mean mg mb dp un gd cn cs a ccd cl outer A₀ base h₀ L mm news s Q E B F X N T hk hdp hun hret
  obtain ⟨f1, f2, f3, f4⟩ := cop_year day
  obtain ⟨g1, g2⟩ := cop_month day
  generalize copY day = Y at *
  generalize copR day = R at *
  generalize copS day = S at *
  generalize copM day = M at *
  generalize copD day = D at *
  have hYb : -30000000 < Y ∧ Y < 30000000 := by omega
  have hRb : 0 ≤ R ∧ R < 366 := by omega
  have hMb : 1 ≤ M ∧ M ≤ 13 := by omega
  have hDb : 1 ≤ D ∧ D ≤ 30 := by omega
  obtain ⟨X, hX⟩ : ∃ X, X = day - 1825030 := ⟨_, rfl⟩
  have hXb : -20000000000 < X ∧ X < 20000000000 := by omega
  have e1 : Hint (2 * day - 1 - 3650059) (2 * X) := ⟨by omega⟩
  have e2 : Hint (2 * X / 2) X := ⟨by omega⟩
  have e3 : Hint ((4 * X + 1463) / 1461) Y := ⟨by omega⟩
  have e4 : Hint (2 * day - 1 - (2 * cj Y 1 1 - 1)) (2 * R) := ⟨by unfold cj; omega⟩
  have gb : -20000000000 < cj Y 1 1 ∧ cj Y 1 1 < 20000000000 := by unfold cj; omega
  have e5 : Hint (2 * R / (2 * 30)) (M - 1) := ⟨by omega⟩
  have e6 : Hint (M - 1 + 1) M := ⟨by omega⟩
  have e7 : Hint (2 * R - 2 * ((M - 1) * 30)) (2 * (D - 1)) := ⟨by omega⟩
  have e8 : Hint (2 * (D - 1) + 2 * 1) (2 * D) := ⟨by omega⟩
  have e9 : Hint (2 * D / 2) D := ⟨by omega⟩
  clear f1 f2 f3 f4 g1 g2 hX
  (refine wpAny_call ?_; (k_dflt cell_enter); (try ((rename Fr _ _ _ _ => F8); (first | (have F9 := Fr_as F8 (m' := fun y9 => List.lookup y9 [(Str.ofString "jdc", (.float (H (2 * day - 1)) t : Value))]) rfl) | (have F9 := Fr_as F8 (m' := fun y9 => List.lookup y9 [(Str.ofString "jdc", (.float (H (2 * day - 1)) t : Value))]) rfl)); clear F8));  k_steps; all_goals (refine' ret_T3 hret ?e1 ?e2 ?e3 ?F ?NM ?hs; (case F => k_asm); (case NM => (refine' ⟨?n1, ?n2⟩; (case n1 => k_asm); (case n2 => k_mem))); (case hs => (first | (intro p9 hp9; (repeat (with_reducible refine List.mem_cons_of_mem _ ?_)); exact hp9) | kcj_all)); (case e1 => (with_reducible exact rfl)); (case e2 => (with_reducible exact rfl)); (case e3 => (with_reducible exact rfl))))))) only [↓gate_true]
end
section
local macro_rules | `(tactic| walk_at "call ref") => `(tactic| (k_here; (with_reducible show wpAny _ _ (PySem.call (Value.ref 71) [Value.float (H (2 * _ - 1)) _]) _ _ _); k_dflt (refine' use (c_fromjd_greg _ _ ?hd) ?k1 ?k2 ?k3 ?k4 ?k5 ?kK ?kd ?ku ?_; (case k1 => k_asm); (case k2 => k_asm); (case k3 => k_asm); (case k4 => k_asm); (case k5 => k_asm); (case kK => first | exact rfl | assumption); (case kd => first | ((with_reducible refine' room_dp ?rdh ?rdk); (case rdh => with_reducible assumption); (case rdk => decide)) | ktr_room); (case ku => first | ((with_reducible refine' room_un ?ruh ?ruk); (case ruh => with_reducible assumption); (case ruk => decide)) | ktr_units); (case hd => (law_clear; first | omega | ((try simp only [decide_eq_true_eq, decide_eq_false_iff_not, gj, ij, cj, jj, aj, sj, leapS] at *); first | done | omega))); intro D9 t9 u9 v9 h9 tk9 F9 N9; (try dsimp only); (try k_fold))))
local macro_rules | `(tactic| walk_at "call ref") => `(tactic| (k_here; (with_reducible show wpAny _ _ (PySem.call (Value.ref 128) [Value.int _ _, Value.int _ _, Value.int _ _]) _ _ _); k_dflt (refine' use (c_tojd_cop _ _ _ _ _ _ ?hy ?hm ?hd) ?k1 ?k2 ?k3 ?k4 ?k5 ?kK ?kd ?ku ?_; (case k1 => k_asm); (case k2 => k_asm); (case k3 => k_asm); (case k4 => k_asm); (case k5 => k_asm); (case kK => first | exact rfl | assumption); (case kd => first | ((with_reducible refine' room_dp ?rdh ?rdk); (case rdh => with_reducible assumption); (case rdk => decide)) | ktr_room); (case ku => first | ((with_reducible refine' room_un ?ruh ?ruk); (case ruh => with_reducible assumption); (case ruk => decide)) | ktr_units); (case hy => (law_clear; first | omega | ((try simp only [decide_eq_true_eq, decide_eq_false_iff_not, gj, ij, cj, jj, aj, sj, leapS] at *); first | done | omega))); (case hm => (law_clear; first | omega | ((try simp only [decide_eq_true_eq, decide_eq_false_iff_not, gj, ij, cj, jj, aj, sj, leapS] at *); first | done | omega))); (case hd => (law_clear; first | omega | ((try simp only [decide_eq_true_eq, decide_eq_false_iff_not, gj, ij, cj, jj, aj, sj, leapS] at *); first | done | omega))); intro t9 h9 tk9 F9 N9; (try dsimp only); (try k_fold))))
local macro_rules | `(tactic| walk_at "call ref") => `(tactic| (k_here; (with_reducible show wpAny _ _ (PySem.call (Value.ref 128) [Value.int (copY _) _, Value.int (copM _) _, Value.int (copD _) _]) _ _ _); k_dflt (refine' use (c_tojd_cop_at _ _ _ _ ?hd) ?k1 ?k2 ?k3 ?k4 ?k5 ?kK ?kd ?ku ?_; (case k1 => k_asm); (case k2 => k_asm); (case k3 => k_asm); (case k4 => k_asm); (case k5 => k_asm); (case kK => first | exact rfl | assumption); (case kd => first | ((with_reducible refine' room_dp ?rdh ?rdk); (case rdh => with_reducible assumption); (case rdk => decide)) | ktr_room); (case ku => first | ((with_reducible refine' room_un ?ruh ?ruk); (case ruh => with_reducible assumption); (case ruk => decide)) | ktr_units); (case hd => (law_clear; first | omega | ((try simp only [decide_eq_true_eq, decide_eq_false_iff_not, gj, ij, cj, jj, aj, sj, leapS] at *); first | done | omega))); intro t9 h9 tk9 F9 N9; (try dsimp only); (try k_fold))))
local macro_rules | `(tactic| walk_at "eval Name") => `(tactic| (k_here; k_dflt (first | (name_kind "local"; refine' nameX_L ?F ?v ?_ ?a ?b ?c; (case F => k_asm); (case a => kernel_rfl); (case b => kernel_rfl); (case c => kernel_rfl); (case v => first | (refine' look_of ?gg ?ge; (case gg => (repeat (first | (with_reducible exact guess_hit_l) | (with_reducible apply guess_miss_l) | (with_reducible exact guess_hit_if) | ((with_reducible show Guess (@ite _ _ _ _ _) _); (with_reducible apply guess_miss_if))))); (case ge => kernel_rfl)) | exact rfl)) | (name_kind "globalImplicit"; refine' nameX_K ?F ?X ?T ?e ?_ ?a ?b ?c; (case F => k_asm); (case X => k_asm); (case T => k_asm); (case e => with_reducible (first | exact gn_from_jd_gregorian _ | exact gn_to_jd_coptic _)); (case a => kernel_rfl); (case b => kernel_rfl); (case c => kernel_rfl)))))
set_option maxRecDepth 100000 in
set_option maxHeartbeats 8000000 in
theorem c_togreg_cop (day : Int) (t u v : Tok) (hd : -10000000000 < day ∧ day < 10000000000) :
    Claim 142 [.int (copY day) t, .int (copM day) u, .int (copD day) v] 5 (RetT3 (romY day) (romM day) (romD day)) := by
  refine gate_out ?_
  simp (disch := (k_dflt (
  intro prog w p loose mean mg mb dp un gd cn cs a ccd cl outer A₀ base h₀ L mm news s Q E B F X N T hk hdp hun hret
  (refine wpAny_call ?_; (k_dflt cell_enter); (try ((rename Fr _ _ _ _ => F8); (first | (have F9 := Fr_as F8 (m' := fun y9 => List.lookup y9 [(Str.ofString "day", (.int (copD day) v : Value)), (Str.ofString "month", (.int (copM day) u : Value)), (Str.ofString "year", (.int (copY day) t : Value))]) rfl) | (have F9 := Fr_as F8 (m' := fun y9 => List.lookup y9 [(Str.ofString "year", (.int (copY day) t : Value)), (Str.ofString "month", (.int (copM day) u : Value)), (Str.ofString "day", (.int (copD day) v : Value))]) rfl)); clear F8));  k_steps; all_goals (refine' ret_T3 hret ?e1 ?e2 ?e3 ?F ?NM ?hs; (case F => k_asm); (case NM => (refine' ⟨?n1, ?n2⟩; (case n1 => k_asm); (case n2 => k_mem))); (case hs => (first | (intro p9 hp9; (repeat (with_reducible refine List.mem_cons_of_mem _ ?_)); exact hp9) | kcj_all)); (case e1 => (with_reducible exact rfl)); (case e2 => (with_reducible exact rfl)); (case e3 => (with_reducible exact rfl))))))) only [↓gate_true]
end
section
local macro_rules | `(tactic| walk_at "pad") => `(tactic| fail)
local macro_rules | `(tactic| walk_at "call ref") => `(tactic| (k_here; (with_reducible show wpAny _ _ (PySem.call (Value.ref 64) [Value.int _ _, Value.int _ _, Value.int _ _]) _ _ _); k_dflt (refine' use (c_tojd_greg _ _ _ _ _ _ ?hy ?hm ?h1 ?h2 ?h3 ?h4 ?h5) ?k1 ?k2 ?k3 ?k4 ?k5 ?kK ?kd ?ku ?_; (case k1 => k_asm); (case k2 => k_asm); (case k3 => k_asm); (case k4 => k_asm); (case k5 => k_asm); (case kK => first | exact rfl | assumption); (case kd => first | ((with_reducible refine' room_dp ?rdh ?rdk); (case rdh => with_reducible assumption); (case rdk => decide)) | ktr_room); (case ku => first | ((with_reducible refine' room_un ?ruh ?ruk); (case ruh => with_reducible assumption); (case ruk => decide)) | ktr_units); (case hy => (law_clear; first | omega | ((try simp only [decide_eq_true_eq, decide_eq_false_iff_not, gj, ij, cj, jj, aj, sj, leapS] at *); first | done | omega))); (case hm => (law_clear; first | omega | ((try simp only [decide_eq_true_eq, decide_eq_false_iff_not, gj, ij, cj, jj, aj, sj, leapS] at *); first | done | omega))); (case h1 => (law_clear; first | omega | ((try simp only [decide_eq_true_eq, decide_eq_false_iff_not, gj, ij, cj, jj, aj, sj, leapS] at *); first | done | omega))); (case h2 => (law_clear; first | omega | ((try simp only [decide_eq_true_eq, decide_eq_false_iff_not, gj, ij, cj, jj, aj, sj, leapS] at *); first | done | omega))); (case h3 => (law_clear; first | omega | ((try simp only [decide_eq_true_eq, decide_eq_false_iff_not, gj, ij, cj, jj, aj, sj, leapS] at *); first | done | omega))); (case h4 => (law_clear; first | omega | ((try simp only [decide_eq_true_eq, decide_eq_false_iff_not, gj, ij, cj, jj, aj, sj, leapS] at *); first | done | omega))); (case h5 => (law_clear; first | omega | ((try simp only [decide_eq_true_eq, decide_eq_false_iff_not, gj, ij, cj, jj, aj, sj, leapS] at *); first | done | omega))); intro t9 h9 tk9 F9 N9; (try dsimp only); (try k_fold))))
local macro_rules | `(tactic| walk_at "call ref") => `(tactic| (k_here; (with_reducible show wpAny _ _ (PySem.call (Value.ref 64) [Value.int (romY _) _, Value.int (romM _) _, Value.int (romD _) _]) _ _ _); k_dflt (refine' use (c_tojd_rom _ _ _ _ ?hd) ?k1 ?k2 ?k3 ?k4 ?k5 ?kK ?kd ?ku ?_; (case k1 => k_asm); (case k2 => k_asm); (case k3 => k_asm); (case k4 => k_asm); (case k5 => k_asm); (case kK => first | exact rfl | assumption); (case kd => first | ((with_reducible refine' room_dp ?rdh ?rdk); (case rdh => with_reducible assumption); (case rdk => decide)) | ktr_room); (case ku => first | ((with_reducible refine' room_un ?ruh ?ruk); (case ruh => with_reducible assumption); (case ruk => decide)) | ktr_units); (case hd => (law_clear; first | omega | ((try simp only [decide_eq_true_eq, decide_eq_false_iff_not, gj, ij, cj, jj, aj, sj, leapS] at *); first | done | omega))); intro t9 h9 tk9 F9 N9; (try dsimp only); (try k_fold))))
local macro_rules | `(tactic| walk_at "call ref") => `(tactic| (k_here; (with_reducible show wpAny _ _ (PySem.call (Value.ref 135) [Value.float (H (2 * _ - 1)) _]) _ _ _); k_dflt (refine' use (c_fromjd_cop _ _ ?hd) ?k1 ?k2 ?k3 ?k4 ?k5 ?kK ?kd ?ku ?_; (case k1 => k_asm); (case k2 => k_asm); (case k3 => k_asm); (case k4 => k_asm); (case k5 => k_asm); (case kK => first | exact rfl | assumption); (case kd => first | ((with_reducible refine' room_dp ?rdh ?rdk); (case rdh => with_reducible assumption); (case rdk => decide)) | ktr_room); (case ku => first | ((with_reducible refine' room_un ?ruh ?ruk); (case ruh => with_reducible assumption); (case ruk => decide)) | ktr_units); (case hd => (law_clear; first | omega | ((try simp only [decide_eq_true_eq, decide_eq_false_iff_not, gj, ij, cj, jj, aj, sj, leapS] at *); first | done | omega))); intro D9 t9 u9 v9 h9 tk9 F9 N9; (try dsimp only); (try k_fold))))
local macro_rules | `(tactic| walk_at "eval Name") => `(tactic| (k_here; k_dflt (first | (name_kind "local"; refine' nameX_L ?F ?v ?_ ?a ?b ?c; (case F => k_asm); (case a => kernel_rfl); (case b => kernel_rfl); (case c => kernel_rfl); (case v => first | (refine' look_of ?gg ?ge; (case gg => (repeat (first | (with_reducible exact guess_hit_l) | (with_reducible apply guess_miss_l) | (with_reducible exact guess_hit_if) | ((with_reducible show Guess (@ite _ _ _ _ _) _); (with_reducible apply guess_miss_if))))); (case ge => kernel_rfl)) | exact rfl)) | (name_kind "globalImplicit"; refine' nameX_K ?F ?X ?T ?e ?_ ?a ?b ?c; (case F => k_asm); (case X => k_asm); (case T => k_asm); (case e => with_reducible (first | exact gn_from_jd_coptic _ | exact gn_to_jd_gregorian _)); (case a => kernel_rfl); (case b => kernel_rfl); (case c => kernel_rfl)))))
set_option maxRecDepth 100000 in
set_option maxHeartbeats 8000000 in
theorem c_fromgreg_cop (day : Int) (t u v : Tok) (hd : -10000000000 < day ∧ day < 10000000000) :
    Claim 149 [.int (romY day) t, .int (romM day) u, .int (romD day) v] 5 (RetT3 (copY day) (copM day) (copD day)) := by
  refine gate_out ?_
  simp (disch := (k_dflt (
  intro prog w p loose mean mg mb dp un gd cn cs a ccd cl outer A₀ base h₀ L mm news s Q E B F X N T hk hdp hun hret
  (refine wpAny_call ?_; (k_dflt cell_enter); (try ((rename Fr _ _ _ _ => F8); (first | (have F9 := Fr_as F8 (m' := fun y9 => List.lookup y9 [(Str.ofString "day", (.int (romD day) v : Value)), (Str.ofString "month", (.int (romM day) u : Value)), (Str.ofString "year", (.int (romY day) t : Value))]) rfl) | (have F9 := Fr_as F8 (m' := fun y9 => List.lookup y9 [(Str.ofString "year", (.int (romY day) t : Value)), (Str.ofString "month", (.int (romM day) u : Value)), (Str.ofString "day", (.int (romD day) v : Value))]) rfl)); clear F8));  k_steps; all_goals (refine' ret_T3 hret ?e1 ?e2 ?e3 ?F ?NM ?hs; (case F => k_asm); (case NM => (refine' ⟨?n1, ?n2⟩; (case n1 => k_asm); (case n2 => k_mem))); (case hs => (first | (intro p9 hp9; (repeat (with_reducible refine List.mem_cons_of_mem _ ?_)); exact hp9) | kcj_all)); (case e1 => (with_reducible exact rfl)); (case e2 => (with_reducible exact rfl)); (case e3 => (with_reducible exact rfl))))))) only [↓gate_true]
end
section
local macro_rules | `(tactic| walk_at "call ref") => `(tactic| (k_here; (with_reducible show wpAny _ _ (PySem.call (Value.ref 121) [Value.int _ _]) _ _ _); k_dflt (refine' use (c_leap_cop _ _) ?k1 ?k2 ?k3 ?k4 ?k5 ?kK ?kd ?ku ?_; (case k1 => k_asm); (case k2 => k_asm); (case k3 => k_asm); (case k4 => k_asm); (case k5 => k_asm); (case kK => first | exact rfl | assumption); (case kd => first | ((with_reducible refine' room_dp ?rdh ?rdk); (case rdh => with_reducible assumption); (case rdk => decide)) | ktr_room); (case ku => first | ((with_reducible refine' room_un ?ruh ?ruk); (case ruh => with_reducible assumption); (case ruk => decide)) | ktr_units); intro t9 h9 tk9 F9 N9; (try dsimp only); (try k_fold))))
local macro_rules | `(tactic| walk_at "eval Name") => `(tactic| (k_here; k_dflt (first | (name_kind "local"; refine' nameX_L ?F ?v ?_ ?a ?b ?c; (case F => k_asm); (case a => kernel_rfl); (case b => kernel_rfl); (case c => kernel_rfl); (case v => first | (refine' look_of ?gg ?ge; (case gg => (repeat (first | (with_reducible exact guess_hit_l) | (with_reducible apply guess_miss_l) | (with_reducible exact guess_hit_if) | ((with_reducible show Guess (@ite _ _ _ _ _) _); (with_reducible apply guess_miss_if))))); (case ge => kernel_rfl)) | exact rfl)) | (name_kind "globalImplicit"; refine' nameX_K ?F ?X ?T ?e ?_ ?a ?b ?c; (case F => k_asm); (case X => k_asm); (case T => k_asm); (case e => with_reducible (first | exact gn_is_leap _)); (case a => kernel_rfl); (case b => kernel_rfl); (case c => kernel_rfl)) | (name_kind "globalImplicit"; refine' nameX_B ?F ?X ?T ?e ?v ?n ?_ ?a ?b ?c; (case F => k_asm); (case X => k_asm); (case T => k_asm); (case e => with_reducible (first | exact gb_ValueError _)); (case v => with_reducible (first | exact bb_ValueError)); (case a => kernel_rfl); (case b => kernel_rfl); (case n => decide); (case c => kernel_rfl)))))
set_option maxRecDepth 100000 in
set_option maxHeartbeats 8000000 in
theorem c_ml_cop (y m : Int) (t u : Tok) (hm : 1 ≤ m ∧ m ≤ 13) :
    Claim 156 [.int y t, .int m u] 3 (RetV fun t => .int (mlc y m) t) := by
  refine gate_out ?_
  simp (disch := (k_dflt (
  intro prog w p loose mean mg mb dp un gd cn cs a ccd cl outer A₀ base h₀ L mm news s Q E B F X N T hk hdp hun hret
  (refine wpAny_call ?_; (k_dflt cell_enter); (try ((rename Fr _ _ _ _ => F8); (first | (have F9 := Fr_as F8 (m' := fun y9 => List.lookup y9 [(Str.ofString "month", (.int m u : Value)), (Str.ofString "year", (.int y t : Value))]) rfl) | (have F9 := Fr_as F8 (m' := fun y9 => List.lookup y9 [(Str.ofString "year", (.int y t : Value)), (Str.ofString "month", (.int m u : Value))]) rfl)); clear F8));  k_steps; all_goals (refine' cb_retI hret ?e1 ?e2 ?e3; (case e2 => k_asm); (case e3 => first | k_asm | (refine' cb_drop ?cbN ?cbS; (case cbN => assumption); (case cbS => (first | (intro p9 hp9; (repeat (with_reducible refine List.mem_cons_of_mem _ ?_)); exact hp9) | kcj_all)))); (case e1 => (law_clear; (try simp only [decide_eq_true_eq, decide_eq_false_iff_not, beq_iff_eq, bne_iff_ne, beq_eq_false_iff_ne] at *); unfold mlc; (repeat' split) <;> omega))))))) only [↓gate_true]
end
section
local macro_rules | `(tactic| walk_at "eval Name") => `(tactic| (k_here; k_dflt (first | (name_kind "local"; refine' nameX_L ?F ?v ?_ ?a ?b ?c; (case F => k_asm); (case a => kernel_rfl); (case b => kernel_rfl); (case c => kernel_rfl); (case v => first | (refine' look_of ?gg ?ge; (case gg => (repeat (first | (with_reducible exact guess_hit_l) | (with_reducible apply guess_miss_l) | (with_reducible exact guess_hit_if) | ((with_reducible show Guess (@ite _ _ _ _ _) _); (with_reducible apply guess_miss_if))))); (case ge => kernel_rfl)) | exact rfl)))))
set_option maxRecDepth 100000 in
set_option maxHeartbeats 8000000 in
theorem c_leap_jul (y : Int) (t : Tok) :
    Claim 164 [.int y t] 1 (RetV fun _ => .bool (decide (y % 4 = 0))) := by
  refine gate_out ?_
  simp (disch := (k_dflt (
  intro prog w p loose mean mg mb dp un gd cn cs a ccd cl outer A₀ base h₀ L mm news s Q E B F X N T hk hdp hun hret
  (refine wpAny_call ?_; (k_dflt cell_enter); (try ((rename Fr _ _ _ _ => F8); (first | (have F9 := Fr_as F8 (m' := fun y9 => List.lookup y9 [(Str.ofString "year", (.int y t : Value))]) rfl) | (have F9 := Fr_as F8 (m' := fun y9 => List.lookup y9 [(Str.ofString "year", (.int y t : Value))]) rfl)); clear F8));  k_steps; all_goals (first | (((first | (with_reducible refine' hret 0 ?_ ?_ ?cbF ?cbN) | (with_reducible refine' hret _ ?_ ?_ ?cbF ?cbN))); (case cbF => k_asm); (case cbN => first | (with_reducible assumption) | (refine' cb_drop ?cbM ?cbS; (case cbM => assumption); (case cbS => (first | (intro p9 hp9; (repeat (with_reducible refine List.mem_cons_of_mem _ ?_)); exact hp9) | kcj_all))))) | cb_end hret))))) only [↓gate_true]
end
section
local macro_rules | `(tactic| walk_at "call ref") => `(tactic| (k_here; (with_reducible show wpAny _ _ (PySem.call (Value.ref 164) [Value.int _ _]) _ _ _); k_dflt (refine' use (c_leap_jul _ _) ?k1 ?k2 ?k3 ?k4 ?k5 ?kK ?kd ?ku ?_; (case k1 => k_asm); (case k2 => k_asm); (case k3 => k_asm); (case k4 => k_asm); (case k5 => k_asm); (case kK => first | exact rfl | assumption); (case kd => first | ((with_reducible refine' room_dp ?rdh ?rdk); (case rdh => with_reducible assumption); (case rdk => decide)) | ktr_room); (case ku => first | ((with_reducible refine' room_un ?ruh ?ruk); (case ruh => with_reducible assumption); (case ruk => decide)) | ktr_units); intro t9 h9 tk9 F9 N9; (try dsimp only); (try k_fold))))
local macro_rules | `(tactic| walk_at "eval Name") => `(tactic| (k_here; k_dflt (first | (name_kind "local"; refine' nameX_L ?F ?v ?_ ?a ?b ?c; (case F => k_asm); (case a => kernel_rfl); (case b => kernel_rfl); (case c => kernel_rfl); (case v => first | (refine' look_of ?gg ?ge; (case gg => (repeat (first | (with_reducible exact guess_hit_l) | (with_reducible apply guess_miss_l) | (with_reducible exact guess_hit_if) | ((with_reducible show Guess (@ite _ _ _ _ _) _); (with_reducible apply guess_miss_if))))); (case ge => kernel_rfl)) | exact rfl)) | (name_kind "globalImplicit"; refine' nameX_K ?F ?X ?T ?e ?_ ?a ?b ?c; (case F => k_asm); (case X => k_asm); (case T => k_asm); (case e => with_reducible (first | exact gn_leap_julian _ | exact gn_HAVE_30_DAYS_julian _)); (case a => kernel_rfl); (case b => kernel_rfl); (case c => kernel_rfl)))))
set_option maxRecDepth 100000 in
set_option maxHeartbeats 8000000 in
theorem c_ml_jul (y m : Int) (t u : Tok) :
    Claim 171 [.int y t, .int m u] 2 (RetV fun t => .int (mlj y m) t) := by
  refine gate_out ?_
  simp (disch := (k_dflt (
  intro prog w p loose mean mg mb dp un gd cn cs a ccd cl outer A₀ base h₀ L mm news s Q E B F X N T hk hdp hun hret
  (refine wpAny_call ?_; (k_dflt cell_enter); (try ((rename Fr _ _ _ _ => F8); (first | (have F9 := Fr_as F8 (m' := fun y9 => List.lookup y9 [(Str.ofString "month", (.int m u : Value)), (Str.ofString "year", (.int y t : Value))]) rfl) | (have F9 := Fr_as F8 (m' := fun y9 => List.lookup y9 [(Str.ofString "year", (.int y t : Value)), (Str.ofString "month", (.int m u : Value))]) rfl)); clear F8));  k_steps; all_goals (refine' cb_retI hret ?e1 ?e2 ?e3; (case e2 => k_asm); (case e3 => first | k_asm | (refine' cb_drop ?cbN ?cbS; (case cbN => assumption); (case cbS => (first | (intro p9 hp9; (repeat (with_reducible refine List.mem_cons_of_mem _ ?_)); exact hp9) | kcj_all)))); (case e1 => (law_clear; (try simp only [decide_eq_true_eq, decide_eq_false_iff_not, beq_iff_eq, bne_iff_ne, beq_eq_false_iff_ne] at *); unfold mlj; (repeat' split) <;> omega))))))) only [↓gate_true]
end
section
local macro_rules | `(tactic| walk_at "pad") => `(tactic| fail)
local macro_rules | `(tactic| walk_at "call ref") => `(tactic| (k_here; (with_reducible show wpAny _ _ (PySem.call (Value.ref 171) [Value.int _ _, Value.int _ _]) _ _ _); k_dflt (refine' use (c_ml_jul _ _ _ _) ?k1 ?k2 ?k3 ?k4 ?k5 ?kK ?kd ?ku ?_; (case k1 => k_asm); (case k2 => k_asm); (case k3 => k_asm); (case k4 => k_asm); (case k5 => k_asm); (case kK => first | exact rfl | assumption); (case kd => first | ((with_reducible refine' room_dp ?rdh ?rdk); (case rdh => with_reducible assumption); (case rdk => decide)) | ktr_room); (case ku => first | ((with_reducible refine' room_un ?ruh ?ruk); (case ruh => with_reducible assumption); (case ruk => decide)) | ktr_units); intro t9 h9 tk9 F9 N9; (try dsimp only); (try k_fold))))
local macro_rules | `(tactic| walk_at "eval Name") => `(tactic| (k_here; k_dflt (first | (name_kind "local"; refine' nameX_L ?F ?v ?_ ?a ?b ?c; (case F => k_asm); (case a => kernel_rfl); (case b => kernel_rfl); (case c => kernel_rfl); (case v => first | (refine' look_of ?gg ?ge; (case gg => (repeat (first | (with_reducible exact guess_hit_l) | (with_reducible apply guess_miss_l) | (with_reducible exact guess_hit_if) | ((with_reducible show Guess (@ite _ _ _ _ _) _); (with_reducible apply guess_miss_if))))); (case ge => kernel_rfl)) | exact rfl)) | (name_kind "globalImplicit"; refine' nameX_K ?F ?X ?T ?e ?_ ?a ?b ?c; (case F => k_asm); (case X => k_asm); (case T => k_asm); (case e => with_reducible (first | exact gn_month_length_julian _)); (case a => kernel_rfl); (case b => kernel_rfl); (case c => kernel_rfl)) | (name_kind "globalImplicit"; refine' nameX_B ?F ?X ?T ?e ?v ?n ?_ ?a ?b ?c; (case F => k_asm); (case X => k_asm); (case T => k_asm); (case e => with_reducible (first | exact gb_ValueError _)); (case v => with_reducible (first | exact bb_ValueError)); (case a => kernel_rfl); (case b => kernel_rfl); (case n => decide); (case c => kernel_rfl)))))
set_option maxRecDepth 100000 in
set_option maxHeartbeats 8000000 in
theorem c_legal_jul (y m d : Int) (t u v : Tok) (hd : 1 ≤ d ∧ d ≤ mlj y m) :
    Claim 178 [.int y t, .int m u, .int d v] 3 (RetV fun _ => .bool true) := by
  refine gate_out ?_
  simp (disch := (k_dflt (
  intro prog w p loose mean mg mb dp un gd cn cs a ccd cl outer A₀ base h₀ L mm news s Q E B F X N T hk hdp hun hret
  (refine wpAny_call ?_; (k_dflt cell_enter); (try ((rename Fr _ _ _ _ => F8); (first | (have F9 := Fr_as F8 (m' := fun y9 => List.lookup y9 [(Str.ofString "day", (.int d v : Value)), (Str.ofString "month", (.int m u : Value)), (Str.ofString "year", (.int y t : Value))]) rfl) | (have F9 := Fr_as F8 (m' := fun y9 => List.lookup y9 [(Str.ofString "year", (.int y t : Value)), (Str.ofString "month", (.int m u : Value)), (Str.ofString "day", (.int d v : Value))]) rfl)); clear F8));  k_steps; all_goals (first | (((first | (with_reducible refine' hret 0 ?_ ?_ ?cbF ?cbN) | (with_reducible refine' hret _ ?_ ?_ ?cbF ?cbN))); (case cbF => k_asm); (case cbN => first | (with_reducible assumption) | (refine' cb_drop ?cbM ?cbS; (case cbM => assumption); (case cbS => (first | (intro p9 hp9; (repeat (with_reducible refine List.mem_cons_of_mem _ ?_)); exact hp9) | kcj_all))))) | cb_end hret))))) only [↓gate_true]
end
section
local macro_rules | `(tactic| walk_at "eval Name") => `(tactic| (k_here; k_dflt (first | (name_kind "local"; refine' nameX_L ?F ?v ?_ ?a ?b ?c; (case F => k_asm); (case a => kernel_rfl); (case b => kernel_rfl); (case c => kernel_rfl); (case v => first | (refine' look_of ?gg ?ge; (case gg => (repeat (first | (with_reducible exact guess_hit_l) | (with_reducible apply guess_miss_l) | (with_reducible exact guess_hit_if) | ((with_reducible show Guess (@ite _ _ _ _ _) _); (with_reducible apply guess_miss_if))))); (case ge => kernel_rfl)) | exact rfl)) | (name_kind "globalImplicit"; refine' nameX_K ?F ?X ?T ?e ?_ ?a ?b ?c; (case F => k_asm); (case X => k_asm); (case T => k_asm); (case e => with_reducible (first | exact gn_floor _)); (case a => kernel_rfl); (case b => kernel_rfl); (case c => kernel_rfl)))))
set_option maxRecDepth 100000 in
set_option maxHeartbeats 8000000 in
theorem c_fromjd_jul (day : Int) (t : Tok) (hd : -10000000000 < day ∧ day < 10000000000) :
    Claim 185 [.float (H (2 * day - 1)) t] 2 (RetT3 (latY day) (latM day) (latD day)) := by
  refine gate_out ?_
  simp (disch := (k_dflt (
  intro prog w p loose mean mg mb dp un gd cn cs a ccd cl outer A₀ base h₀ L mm news s Q E B F X N T hk hdp hun hret
  obtain ⟨C, hC⟩ : ∃ C, (20 * (day + 1524) - 2442) / 7305 = C := ⟨_, rfl⟩
  obtain ⟨Dd, hD⟩ : ∃ Dd, 1461 * C / 4 = Dd := ⟨_, rfl⟩
  obtain ⟨Ee, hE⟩ : ∃ Ee, 10000 * (day + 1524 - Dd) / 306001 = Ee := ⟨_, rfl⟩
  obtain ⟨Ff, hF⟩ : ∃ Ff, 306001 * Ee / 10000 = Ff := ⟨_, rfl⟩
  obtain ⟨k1, k2, k3, k4, k5, k6, k7⟩ := lat_float day C Dd Ee Ff hC hD hE hF
  generalize latY day = Y at *
  generalize latM day = M at *
  generalize latD day = D at *
  have hCb : -100000000 < C ∧ C < 100000000 := by clear k1 k2; omega
  have e1 : Hint (2 * day - 1 + 1) (2 * day) := ⟨by omega⟩
  have e2 : Hint (2 * day / 2) day := ⟨by omega⟩
  have e3 : Hint ((20 * (day + 1524) - 2442) / 7305) C := ⟨hC⟩
  have e4 : Hint (1461 * C / 4) Dd := ⟨hD⟩
  have e5 : Hint (10000 * (day + 1524 - Dd) / 306001) Ee := ⟨hE⟩
  have e6 : Hint (306001 * Ee / 10000) Ff := ⟨hF⟩
  have hj1 : JoinAt 140 (Str.ofString "month") M := ⟨⟩
  have hj2 : JoinAt 144 (Str.ofString "year") Y := ⟨⟩
  clear hC hD hE hF
  (refine wpAny_call ?_; (k_dflt cell_enter); (try ((rename Fr _ _ _ _ => F8); (first | (have F9 := Fr_as F8 (m' := fun y9 => List.lookup y9 [(Str.ofString "jd", (.float (H (2 * day - 1)) t : Value))]) rfl) | (have F9 := Fr_as F8 (m' := fun y9 => List.lookup y9 [(Str.ofString "jd", (.float (H (2 * day - 1)) t : Value))]) rfl)); clear F8));  k_steps; all_goals first | (refine' join_end ?jF ?jN ?jm ?jk; (case jF => k_asm); (case jN => k_asm); (case jm => first | (intro y; exact rfl) | exact join_same rfl); (case jk => (law_clear; first | omega | ((repeat' split at *) <;> omega)))) | (refine' ret_T3 hret ?e1 ?e2 ?e3 ?F ?NM ?hs; (case F => k_asm); (case NM => (refine' ⟨?n1, ?n2⟩; (case n1 => k_asm); (case n2 => k_mem))); (case hs => (first | (intro p9 hp9; (repeat (with_reducible refine List.mem_cons_of_mem _ ?_)); exact hp9) | kcj_all)); (case e1 => (with_reducible exact rfl)); (case e2 => (with_reducible exact rfl)); (case e3 => (law_clear; (try simp only [decide_eq_true_eq, decide_eq_false_iff_not] at *); omega))))))) only [↓gate_true]
end
section
local macro_rules | `(tactic| walk_at "call ref") => `(tactic| (k_here; (with_reducible show wpAny _ _ (PySem.call (Value.ref 178) [Value.int _ _, Value.int _ _, Value.int _ _]) _ _ _); k_dflt (refine' use (c_legal_jul _ _ _ _ _ _ ?hd) ?k1 ?k2 ?k3 ?k4 ?k5 ?kK ?kd ?ku ?_; (case k1 => k_asm); (case k2 => k_asm); (case k3 => k_asm); (case k4 => k_asm); (case k5 => k_asm); (case kK => first | exact rfl | assumption); (case kd => first | ((with_reducible refine' room_dp ?rdh ?rdk); (case rdh => with_reducible assumption); (case rdk => decide)) | ktr_room); (case ku => first | ((with_reducible refine' room_un ?ruh ?ruk); (case ruh => with_reducible assumption); (case ruk => decide)) | ktr_units); (case hd => (law_clear; first | omega | ((try simp only [decide_eq_true_eq, decide_eq_false_iff_not, gj, ij, cj, jj, aj, sj, leapS] at *); first | done | omega))); intro t9 h9 tk9 F9 N9; (try dsimp only); (try k_fold))))
local macro_rules | `(tactic| walk_at "eval Name") => `(tactic| (k_here; k_dflt (first | (name_kind "local"; refine' nameX_L ?F ?v ?_ ?a ?b ?c; (case F => k_asm); (case a => kernel_rfl); (case b => kernel_rfl); (case c => kernel_rfl); (case v => first | (refine' look_of ?gg ?ge; (case gg => (repeat (first | (with_reducible exact guess_hit_l) | (with_reducible apply guess_miss_l) | (with_reducible exact guess_hit_if) | ((with_reducible show Guess (@ite _ _ _ _ _) _); (with_reducible apply guess_miss_if))))); (case ge => kernel_rfl)) | exact rfl)) | (name_kind "globalImplicit"; refine' nameX_K ?F ?X ?T ?e ?_ ?a ?b ?c; (case F => k_asm); (case X => k_asm); (case T => k_asm); (case e => with_reducible (first | exact gn_legal_date_julian _ | exact gn_floor _)); (case a => kernel_rfl); (case b => kernel_rfl); (case c => kernel_rfl)))))
set_option maxRecDepth 100000 in
set_option maxHeartbeats 8000000 in
theorem c_tojd_jul (y m d : Int) (t u v : Tok) (hy : -30000000 < y ∧ y < 30000000) (hm : 1 ≤ m ∧ m ≤ 12) (hd : 1 ≤ d ∧ d ≤ 31) (hl : d ≤ mlj y m) :
    Claim 192 [.int y t, .int m u, .int d v] 4 (RetV fun t => .float (H (2 * jj y m d - 1)) t) := by
  refine gate_out ?_
  simp (disch := (k_dflt (
  intro prog w p loose mean mg mb dp un gd cn cs a ccd cl outer A₀ base h₀ L mm news s Q E B F X N T hk hdp hun hret
  (refine wpAny_call ?_; (k_dflt cell_enter); (try ((rename Fr _ _ _ _ => F8); (first | (have F9 := Fr_as F8 (m' := fun y9 => List.lookup y9 [(Str.ofString "day", (.int d v : Value)), (Str.ofString "month", (.int m u : Value)), (Str.ofString "year", (.int y t : Value))]) rfl) | (have F9 := Fr_as F8 (m' := fun y9 => List.lookup y9 [(Str.ofString "year", (.int y t : Value)), (Str.ofString "month", (.int m u : Value)), (Str.ofString "day", (.int d v : Value))]) rfl)); clear F8));  k_steps; all_goals (refine' ret_F hret ?e1 ?e2 ?e3; (case e2 => k_asm); (case e3 => first | k_asm | (refine' cb_drop ?cbN ?cbS; (case cbN => assumption); (case cbS => (first | (intro p9 hp9; (repeat (with_reducible refine List.mem_cons_of_mem _ ?_)); exact hp9) | kcj_all)))); (case e1 => (law_clear; (try simp only [decide_eq_true_eq, decide_eq_false_iff_not] at *); (unfold jj; (repeat' split) <;> omega)))))))) only [↓gate_true]
end
theorem c_tojd_lat (day : Int) (t u v : Tok) (hd : -10000000000 < day ∧ day < 10000000000) :
    Claim 192 [.int (latY day) t, .int (latM day) u, .int (latD day) v] 4 (RetV fun t => .float (H (2 * day - 1)) t) := by
  have e := jj_lat day
  obtain ⟨f1, f2, f3, f4⟩ := lat_year day
  obtain ⟨g1, g2, g3, g4, g5, g6, g7, g8, g9, g10⟩ := lat_month day
  have h := c_tojd_jul (latY day) (latM day) (latD day) t u v (by clear g3 g4 g5 g6 g9 g10 e; omega) ⟨g1, g2⟩ ⟨g7, g8⟩ (by clear g3 g4 g5 g6 e f1; unfold mlj; (repeat' split) <;> omega)
  rw [e] at h
  exact h
section
local macro_rules | `(tactic| walk_at "call ref") => `(tactic| (k_here; (with_reducible show wpAny _ _ (PySem.call (Value.ref 64) [Value.int _ _, Value.int _ _, Value.int _ _]) _ _ _); k_dflt (refine' use (c_tojd_greg _ _ _ _ _ _ ?hy ?hm ?h1 ?h2 ?h3 ?h4 ?h5) ?k1 ?k2 ?k3 ?k4 ?k5 ?kK ?kd ?ku ?_; (case k1 => k_asm); (case k2 => k_asm); (case k3 => k_asm); (case k4 => k_asm); (case k5 => k_asm); (case kK => first | exact rfl | assumption); (case kd => first | ((with_reducible refine' room_dp ?rdh ?rdk); (case rdh => with_reducible assumption); (case rdk => decide)) | ktr_room); (case ku => first | ((with_reducible refine' room_un ?ruh ?ruk); (case ruh => with_reducible assumption); (case ruk => decide)) | ktr_units); (case hy => (law_clear; first | omega | ((try simp only [decide_eq_true_eq, decide_eq_false_iff_not, gj, ij, cj, jj, aj, sj, leapS] at *); first | done | omega))); (case hm => (law_clear; first | omega | ((try simp only [decide_eq_true_eq, decide_eq_false_iff_not, gj, ij, cj, jj, aj, sj, leapS] at *); first | done | omega))); (case h1 => (law_clear; first | omega | ((try simp only [decide_eq_true_eq, decide_eq_false_iff_not, gj, ij, cj, jj, aj, sj, leapS] at *); first | done | omega))); (case h2 => (law_clear; first | omega | ((try simp only [decide_eq_true_eq, decide_eq_false_iff_not, gj, ij, cj, jj, aj, sj, leapS] at *); first | done | omega))); (case h3 => (law_clear; first | omega | ((try simp only [decide_eq_true_eq, decide_eq_false_iff_not, gj, ij, cj, jj, aj, sj, leapS] at *); first | done | omega))); (case h4 => (law_clear; first | omega | ((try simp only [decide_eq_true_eq, decide_eq_false_iff_not, gj, ij, cj, jj, aj, sj, leapS] at *); first | done | omega))); (case h5 => (law_clear; first | omega | ((try simp only [decide_eq_true_eq, decide_eq_false_iff_not, gj, ij, cj, jj, aj, sj, leapS] at *); first | done | omega))); intro t9 h9 tk9 F9 N9; (try dsimp only); (try k_fold))))
local macro_rules | `(tactic| walk_at "call ref") => `(tactic| (k_here; (with_reducible show wpAny _ _ (PySem.call (Value.ref 64) [Value.int (romY _) _, Value.int (romM _) _, Value.int (romD _) _]) _ _ _); k_dflt (refine' use (c_tojd_rom _ _ _ _ ?hd) ?k1 ?k2 ?k3 ?k4 ?k5 ?kK ?kd ?ku ?_; (case k1 => k_asm); (case k2 => k_asm); (case k3 => k_asm); (case k4 => k_asm); (case k5 => k_asm); (case kK => first | exact rfl | assumption); (case kd => first | ((with_reducible refine' room_dp ?rdh ?rdk); (case rdh => with_reducible assumption); (case rdk => decide)) | ktr_room); (case ku => first | ((with_reducible refine' room_un ?ruh ?ruk); (case ruh => with_reducible assumption); (case ruk => decide)) | ktr_units); (case hd => (law_clear; first | omega | ((try simp only [decide_eq_true_eq, decide_eq_false_iff_not, gj, ij, cj, jj, aj, sj, leapS] at *); first | done | omega))); intro t9 h9 tk9 F9 N9; (try dsimp only); (try k_fold))))
local macro_rules | `(tactic| walk_at "call ref") => `(tactic| (k_here; (with_reducible show wpAny _ _ (PySem.call (Value.ref 185) [Value.float (H (2 * _ - 1)) _]) _ _ _); k_dflt (refine' use (c_fromjd_jul _ _ ?hd) ?k1 ?k2 ?k3 ?k4 ?k5 ?kK ?kd ?ku ?_; (case k1 => k_asm); (case k2 => k_asm); (case k3 => k_asm); (case k4 => k_asm); (case k5 => k_asm); (case kK => first | exact rfl | assumption); (case kd => first | ((with_reducible refine' room_dp ?rdh ?rdk); (case rdh => with_reducible assumption); (case rdk => decide)) | ktr_room); (case ku => first | ((with_reducible refine' room_un ?ruh ?ruk); (case ruh => with_reducible assumption); (case ruk => decide)) | ktr_units); (case hd => (law_clear; first | omega | ((try simp only [decide_eq_true_eq, decide_eq_false_iff_not, gj, ij, cj, jj, aj, sj, leapS] at *); first | done | omega))); intro D9 t9 u9 v9 h9 tk9 F9 N9; (try dsimp only); (try k_fold))))
local macro_rules | `(tactic| walk_at "eval Name") => `(tactic| (k_here; k_dflt (first | (name_kind "local"; refine' nameX_L ?F ?v ?_ ?a ?b ?c; (case F => k_asm); (case a => kernel_rfl); (case b => kernel_rfl); (case c => kernel_rfl); (case v => first | (refine' look_of ?gg ?ge; (case gg => (repeat (first | (with_reducible exact guess_hit_l) | (with_reducible apply guess_miss_l) | (with_reducible exact guess_hit_if) | ((with_reducible show Guess (@ite _ _ _ _ _) _); (with_reducible apply guess_miss_if))))); (case ge => kernel_rfl)) | exact rfl)) | (name_kind "globalImplicit"; refine' nameX_K ?F ?X ?T ?e ?_ ?a ?b ?c; (case F => k_asm); (case X => k_asm); (case T => k_asm); (case e => with_reducible (first | exact gn_from_jd_julian _ | exact gn_to_jd_gregorian _)); (case a => kernel_rfl); (case b => kernel_rfl); (case c => kernel_rfl)))))
set_option maxRecDepth 100000 in
set_option maxHeartbeats 8000000 in
theorem c_fromgreg_jul (day : Int) (t u v : Tok) (hd : -10000000000 < day ∧ day < 10000000000) :
    Claim 199 [.int (romY day) t, .int (romM day) u, .int (romD day) v] 6 (RetT3 (latY day) (latM day) (latD day)) := by
  refine gate_out ?_
  simp (disch := (k_dflt (
  intro prog w p loose mean mg mb dp un gd cn cs a ccd cl outer A₀ base h₀ L mm news s Q E B F X N T hk hdp hun hret
  (refine wpAny_call ?_; (k_dflt cell_enter); (try ((rename Fr _ _ _ _ => F8); (first | (have F9 := Fr_as F8 (m' := fun y9 => List.lookup y9 [(Str.ofString "day", (.int (romD day) v : Value)), (Str.ofString "month", (.int (romM day) u : Value)), (Str.ofString "year", (.int (romY day) t : Value))]) rfl) | (have F9 := Fr_as F8 (m' := fun y9 => List.lookup y9 [(Str.ofString "year", (.int (romY day) t : Value)), (Str.ofString "month", (.int (romM day) u : Value)), (Str.ofString "day", (.int (romD day) v : Value))]) rfl)); clear F8));  k_steps; all_goals (refine' ret_T3 hret ?e1 ?e2 ?e3 ?F ?NM ?hs; (case F => k_asm); (case NM => (refine' ⟨?n1, ?n2⟩; (case n1 => k_asm); (case n2 => k_mem))); (case hs => (first | (intro p9 hp9; (repeat (with_reducible refine List.mem_cons_of_mem _ ?_)); exact hp9) | kcj_all)); (case e1 => (with_reducible exact rfl)); (case e2 => (with_reducible exact rfl)); (case e3 => (with_reducible exact rfl))))))) only [↓gate_true]
end
section
local macro_rules | `(tactic| walk_at "pad") => `(tactic| fail)
local macro_rules | `(tactic| walk_at "call ref") => `(tactic| (k_here; (with_reducible show wpAny _ _ (PySem.call (Value.ref 71) [Value.float (H (2 * _ - 1)) _]) _ _ _); k_dflt (refine' use (c_fromjd_greg _ _ ?hd) ?k1 ?k2 ?k3 ?k4 ?k5 ?kK ?kd ?ku ?_; (case k1 => k_asm); (case k2 => k_asm); (case k3 => k_asm); (case k4 => k_asm); (case k5 => k_asm); (case kK => first | exact rfl | assumption); (case kd => first | ((with_reducible refine' room_dp ?rdh ?rdk); (case rdh => with_reducible assumption); (case rdk => decide)) | ktr_room); (case ku => first | ((with_reducible refine' room_un ?ruh ?ruk); (case ruh => with_reducible assumption); (case ruk => decide)) | ktr_units); (case hd => (law_clear; first | omega | ((try simp only [decide_eq_true_eq, decide_eq_false_iff_not, gj, ij, cj, jj, aj, sj, leapS] at *); first | done | omega))); intro D9 t9 u9 v9 h9 tk9 F9 N9; (try dsimp only); (try k_fold))))
local macro_rules | `(tactic| walk_at "call ref") => `(tactic| (k_here; (with_reducible show wpAny _ _ (PySem.call (Value.ref 192) [Value.int _ _, Value.int _ _, Value.int _ _]) _ _ _); k_dflt (refine' use (c_tojd_jul _ _ _ _ _ _ ?hy ?hm ?hd ?hl) ?k1 ?k2 ?k3 ?k4 ?k5 ?kK ?kd ?ku ?_; (case k1 => k_asm); (case k2 => k_asm); (case k3 => k_asm); (case k4 => k_asm); (case k5 => k_asm); (case kK => first | exact rfl | assumption); (case kd => first | ((with_reducible refine' room_dp ?rdh ?rdk); (case rdh => with_reducible assumption); (case rdk => decide)) | ktr_room); (case ku => first | ((with_reducible refine' room_un ?ruh ?ruk); (case ruh => with_reducible assumption); (case ruk => decide)) | ktr_units); (case hy => (law_clear; first | omega | ((try simp only [decide_eq_true_eq, decide_eq_false_iff_not, gj, ij, cj, jj, aj, sj, leapS] at *); first | done | omega))); (case hm => (law_clear; first | omega | ((try simp only [decide_eq_true_eq, decide_eq_false_iff_not, gj, ij, cj, jj, aj, sj, leapS] at *); first | done | omega))); (case hd => (law_clear; first | omega | ((try simp only [decide_eq_true_eq, decide_eq_false_iff_not, gj, ij, cj, jj, aj, sj, leapS] at *); first | done | omega))); (case hl => (law_clear; first | omega | ((try simp only [decide_eq_true_eq, decide_eq_false_iff_not, gj, ij, cj, jj, aj, sj, leapS] at *); first | done | omega))); intro t9 h9 tk9 F9 N9; (try dsimp only); (try k_fold))))
local macro_rules | `(tactic| walk_at "call ref") => `(tactic| (k_here; (with_reducible show wpAny _ _ (PySem.call (Value.ref 192) [Value.int (latY _) _, Value.int (latM _) _, Value.int (latD _) _]) _ _ _); k_dflt (refine' use (c_tojd_lat _ _ _ _ ?hd) ?k1 ?k2 ?k3 ?k4 ?k5 ?kK ?kd ?ku ?_; (case k1 => k_asm); (case k2 => k_asm); (case k3 => k_asm); (case k4 => k_asm); (case k5 => k_asm); (case kK => first | exact rfl | assumption); (case kd => first | ((with_reducible refine' room_dp ?rdh ?rdk); (case rdh => with_reducible assumption); (case rdk => decide)) | ktr_room); (case ku => first | ((with_reducible refine' room_un ?ruh ?ruk); (case ruh => with_reducible assumption); (case ruk => decide)) | ktr_units); (case hd => (law_clear; first | omega | ((try simp only [decide_eq_true_eq, decide_eq_false_iff_not, gj, ij, cj, jj, aj, sj, leapS] at *); first | done | omega))); intro t9 h9 tk9 F9 N9; (try dsimp only); (try k_fold))))
local macro_rules | `(tactic| walk_at "eval Name") => `(tactic| (k_here; k_dflt (first | (name_kind "local"; refine' nameX_L ?F ?v ?_ ?a ?b ?c; (case F => k_asm); (case a => kernel_rfl); (case b => kernel_rfl); (case c => kernel_rfl); (case v => first | (refine' look_of ?gg ?ge; (case gg => (repeat (first | (with_reducible exact guess_hit_l) | (with_reducible apply guess_miss_l) | (with_reducible exact guess_hit_if) | ((with_reducible show Guess (@ite _ _ _ _ _) _); (with_reducible apply guess_miss_if))))); (case ge => kernel_rfl)) | exact rfl)) | (name_kind "globalImplicit"; refine' nameX_K ?F ?X ?T ?e ?_ ?a ?b ?c; (case F => k_asm); (case X => k_asm); (case T => k_asm); (case e => with_reducible (first | exact gn_from_jd_gregorian _ | exact gn_to_jd_julian _)); (case a => kernel_rfl); (case b => kernel_rfl); (case c => kernel_rfl)))))
set_option maxRecDepth 100000 in
set_option maxHeartbeats 8000000 in
theorem c_togreg_jul (day : Int) (t u v : Tok) (hd : -10000000000 < day ∧ day < 10000000000) :
    Claim 206 [.int (latY day) t, .int (latM day) u, .int (latD day) v] 6 (RetT3 (romY day) (romM day) (romD day)) := by
  refine gate_out ?_
  simp (disch := (k_dflt (
  intro prog w p loose mean mg mb dp un gd cn cs a ccd cl outer A₀ base h₀ L mm news s Q E B F X N T hk hdp hun hret
  (refine wpAny_call ?_; (k_dflt cell_enter); (try ((rename Fr _ _ _ _ => F8); (first | (have F9 := Fr_as F8 (m' := fun y9 => List.lookup y9 [(Str.ofString "day", (.int (latD day) v : Value)), (Str.ofString "month", (.int (latM day) u : Value)), (Str.ofString "year", (.int (latY day) t : Value))]) rfl) | (have F9 := Fr_as F8 (m' := fun y9 => List.lookup y9 [(Str.ofString "year", (.int (latY day) t : Value)), (Str.ofString "month", (.int (latM day) u : Value)), (Str.ofString "day", (.int (latD day) v : Value))]) rfl)); clear F8));  k_steps; all_goals (refine' ret_T3 hret ?e1 ?e2 ?e3 ?F ?NM ?hs; (case F => k_asm); (case NM => (refine' ⟨?n1, ?n2⟩; (case n1 => k_asm); (case n2 => k_mem))); (case hs => (first | (intro p9 hp9; (repeat (with_reducible refine List.mem_cons_of_mem _ ?_)); exact hp9) | kcj_all)); (case e1 => (with_reducible exact rfl)); (case e2 => (with_reducible exact rfl)); (case e3 => (with_reducible exact rfl))))))) only [↓gate_true]
end
section
local macro_rules | `(tactic| walk_at "eval Name") => `(tactic| (k_here; k_dflt (first | (name_kind "local"; refine' nameX_L ?F ?v ?_ ?a ?b ?c; (case F => k_asm); (case a => kernel_rfl); (case b => kernel_rfl); (case c => kernel_rfl); (case v => first | (refine' look_of ?gg ?ge; (case gg => (repeat (first | (with_reducible exact guess_hit_l) | (with_reducible apply guess_miss_l) | (with_reducible exact guess_hit_if) | ((with_reducible show Guess (@ite _ _ _ _ _) _); (with_reducible apply guess_miss_if))))); (case ge => kernel_rfl)) | exact rfl)))))
set_option maxRecDepth 100000 in
set_option maxHeartbeats 8000000 in
theorem c_leap_arm (y : Int) (t : Tok) :
    Claim 221 [.int y t] 1 (RetV fun _ => .bool (decide (533 ≤ y ∧ y % 4 = 0))) := by
  refine gate_out ?_
  simp (disch := (k_dflt (
  intro prog w p loose mean mg mb dp un gd cn cs a ccd cl outer A₀ base h₀ L mm news s Q E B F X N T hk hdp hun hret
  (refine wpAny_call ?_; (k_dflt cell_enter); (try ((rename Fr _ _ _ _ => F8); (first | (have F9 := Fr_as F8 (m' := fun y9 => List.lookup y9 [(Str.ofString "year", (.int y t : Value))]) rfl) | (have F9 := Fr_as F8 (m' := fun y9 => List.lookup y9 [(Str.ofString "year", (.int y t : Value))]) rfl)); clear F8));  k_steps; all_goals (first | (((first | (with_reducible refine' hret 0 ?_ ?_ ?cbF ?cbN) | (with_reducible refine' hret _ ?_ ?_ ?cbF ?cbN))); (case cbF => k_asm); (case cbN => first | (with_reducible assumption) | (refine' cb_drop ?cbM ?cbS; (case cbM => assumption); (case cbS => (first | (intro p9 hp9; (repeat (with_reducible refine List.mem_cons_of_mem _ ?_)); exact hp9) | kcj_all))))) | cb_end hret))))) only [↓gate_true]
end
section
local macro_rules | `(tactic| walk_at "call ref") => `(tactic| (k_here; (with_reducible show wpAny _ _ (PySem.call (Value.ref 221) [Value.int _ _]) _ _ _); k_dflt (refine' use (c_leap_arm _ _) ?k1 ?k2 ?k3 ?k4 ?k5 ?kK ?kd ?ku ?_; (case k1 => k_asm); (case k2 => k_asm); (case k3 => k_asm); (case k4 => k_asm); (case k5 => k_asm); (case kK => first | exact rfl | assumption); (case kd => first | ((with_reducible refine' room_dp ?rdh ?rdk); (case rdh => with_reducible assumption); (case rdk => decide)) | ktr_room); (case ku => first | ((with_reducible refine' room_un ?ruh ?ruk); (case ruh => with_reducible assumption); (case ruk => decide)) | ktr_units); intro t9 h9 tk9 F9 N9; (try dsimp only); (try k_fold))))
local macro_rules | `(tactic| walk_at "eval Name") => `(tactic| (k_here; k_dflt (first | (name_kind "local"; refine' nameX_L ?F ?v ?_ ?a ?b ?c; (case F => k_asm); (case a => kernel_rfl); (case b => kernel_rfl); (case c => kernel_rfl); (case v => first | (refine' look_of ?gg ?ge; (case gg => (repeat (first | (with_reducible exact guess_hit_l) | (with_reducible apply guess_miss_l) | (with_reducible exact guess_hit_if) | ((with_reducible show Guess (@ite _ _ _ _ _) _); (with_reducible apply guess_miss_if))))); (case ge => kernel_rfl)) | exact rfl)) | (name_kind "globalImplicit"; refine' nameX_K ?F ?X ?T ?e ?_ ?a ?b ?c; (case F => k_asm); (case X => k_asm); (case T => k_asm); (case e => with_reducible (first | exact gn_leap_armenian _)); (case a => kernel_rfl); (case b => kernel_rfl); (case c => kernel_rfl)) | (name_kind "globalImplicit"; refine' nameX_B ?F ?X ?T ?e ?v ?n ?_ ?a ?b ?c; (case F => k_asm); (case X => k_asm); (case T => k_asm); (case e => with_reducible (first | exact gb_AssertionError _ | exact gb_ValueError _)); (case v => with_reducible (first | exact bb_AssertionError | exact bb_ValueError)); (case a => kernel_rfl); (case b => kernel_rfl); (case n => decide); (case c => kernel_rfl)))))
set_option maxRecDepth 100000 in
set_option maxHeartbeats 8000000 in
theorem c_valid_n (y m d : Int) (t u v : Tok) (hy : 1 ≤ y) (hm : 1 ≤ m ∧ m ≤ 13) (hd : 1 ≤ d ∧ d ≤ 30) (hl : m ≠ 13 ∨ d ≤ 5) :
    Claim 214 [.int y t, .int m u, .int d v, .none] 2 (RetV fun _ => .bool true) := by
  refine gate_out ?_
  simp (disch := (k_dflt (
  intro prog w p loose mean mg mb dp un gd cn cs a ccd cl outer A₀ base h₀ L mm news s Q E B F X N T hk hdp hun hret
  (refine wpAny_call ?_; k_dflt (refine' code_def ?k1 ?k2 ?k3 ?k4 ?k5 ?kA ?kF ?kK ?k6 ?k7 ?k8 ?k9 ?kB ?_ ?c2 ?c3 ?c4 ?c5; (case kA => exact rfl); (case kF => exact rfl); (case kK => assumption); (case k1 => k_asm); (case k2 => k_asm); (case k3 => k_asm); (case k4 => k_asm); (case k5 => k_asm); (case k6 => k_is); (case k7 => k_is); (case k8 => ktr_room); (case k9 => exact binds_K (by k_in) rfl (by k_is) rfl rfl rfl); (case c5 => decide); (case kB => exact locs rfl); (case c2 => exact rfl); (case c3 => exact rfl); (case c4 => exact rfl); k_whole; intro g' L' h' FG' F' N' B' X' T'; (try dsimp only); (try k_lift B'); (try k_fold)); (try ((rename Fr _ _ _ _ => F8); (first | (have F9 := Fr_as F8 (m' := fun y9 => List.lookup y9 [(Str.ofString "method", (.none : Value)), (Str.ofString "day", (.int d v : Value)), (Str.ofString "month", (.int m u : Value)), (Str.ofString "year", (.int y t : Value))]) rfl) | (have F9 := Fr_as F8 (m' := fun y9 => List.lookup y9 [(Str.ofString "year", (.int y t : Value)), (Str.ofString "month", (.int m u : Value)), (Str.ofString "day", (.int d v : Value)), (Str.ofString "method", (.none : Value))]) rfl)); clear F8));  k_steps; all_goals (first | (((first | (with_reducible refine' hret 0 ?_ ?_ ?cbF ?cbN) | (with_reducible refine' hret _ ?_ ?_ ?cbF ?cbN))); (case cbF => k_asm); (case cbN => first | (with_reducible assumption) | (refine' cb_drop ?cbM ?cbS; (case cbM => assumption); (case cbS => (first | (intro p9 hp9; (repeat (with_reducible refine List.mem_cons_of_mem _ ?_)); exact hp9) | kcj_all))))) | cb_end hret))))) only [↓gate_true]
end
section
local macro_rules | `(tactic| walk_at "pad") => `(tactic| fail)
local macro_rules | `(tactic| walk_at "call ref") => `(tactic| (k_here; (with_reducible show wpAny _ _ (PySem.call (Value.ref 221) [Value.int _ _]) _ _ _); k_dflt (refine' use (c_leap_arm _ _) ?k1 ?k2 ?k3 ?k4 ?k5 ?kK ?kd ?ku ?_; (case k1 => k_asm); (case k2 => k_asm); (case k3 => k_asm); (case k4 => k_asm); (case k5 => k_asm); (case kK => first | exact rfl | assumption); (case kd => first | ((with_reducible refine' room_dp ?rdh ?rdk); (case rdh => with_reducible assumption); (case rdk => decide)) | ktr_room); (case ku => first | ((with_reducible refine' room_un ?ruh ?ruk); (case ruh => with_reducible assumption); (case ruk => decide)) | ktr_units); intro t9 h9 tk9 F9 N9; (try dsimp only); (try k_fold))))
local macro_rules | `(tactic| walk_at "eval Name") => `(tactic| (k_here; k_dflt (first | (name_kind "local"; refine' nameX_L ?F ?v ?_ ?a ?b ?c; (case F => k_asm); (case a => kernel_rfl); (case b => kernel_rfl); (case c => kernel_rfl); (case v => first | (refine' look_of ?gg ?ge; (case gg => (repeat (first | (with_reducible exact guess_hit_l) | (with_reducible apply guess_miss_l) | (with_reducible exact guess_hit_if) | ((with_reducible show Guess (@ite _ _ _ _ _) _); (with_reducible apply guess_miss_if))))); (case ge => kernel_rfl)) | exact rfl)) | (name_kind "globalImplicit"; refine' nameX_K ?F ?X ?T ?e ?_ ?a ?b ?c; (case F => k_asm); (case X => k_asm); (case T => k_asm); (case e => with_reducible (first | exact gn_leap_armenian _)); (case a => kernel_rfl); (case b => kernel_rfl); (case c => kernel_rfl)) | (name_kind "globalImplicit"; refine' nameX_B ?F ?X ?T ?e ?v ?n ?_ ?a ?b ?c; (case F => k_asm); (case X => k_asm); (case T => k_asm); (case e => with_reducible (first | exact gb_AssertionError _ | exact gb_ValueError _)); (case v => with_reducible (first | exact bb_AssertionError | exact bb_ValueError)); (case a => kernel_rfl); (case b => kernel_rfl); (case n => decide); (case c => kernel_rfl)))))
set_option maxRecDepth 100000 in
set_option maxHeartbeats 8000000 in
theorem c_valid_s (y m d : Int) (t u v z : Tok) (hy : 533 ≤ y) (hm : 1 ≤ m ∧ m ≤ 13) (hd : 1 ≤ d ∧ d ≤ 30) (hl : m ≠ 13 ∨ d ≤ 5 ∨ (d ≤ 6 ∧ y % 4 = 0)) :
    Claim 214 [.int y t, .int m u, .int d v, .str (Str.ofString "sarkawag") z] 3 (RetV fun _ => .bool true) := by
  refine gate_out ?_
  simp (disch := (k_dflt (
  intro prog w p loose mean mg mb dp un gd cn cs a ccd cl outer A₀ base h₀ L mm news s Q E B F X N T hk hdp hun hret
  (refine wpAny_call ?_; k_dflt (refine' code_def ?k1 ?k2 ?k3 ?k4 ?k5 ?kA ?kF ?kK ?k6 ?k7 ?k8 ?k9 ?kB ?_ ?c2 ?c3 ?c4 ?c5; (case kA => exact rfl); (case kF => exact rfl); (case kK => assumption); (case k1 => k_asm); (case k2 => k_asm); (case k3 => k_asm); (case k4 => k_asm); (case k5 => k_asm); (case k6 => k_is); (case k7 => k_is); (case k8 => ktr_room); (case k9 => exact binds_K (by k_in) rfl (by k_is) rfl rfl rfl); (case c5 => decide); (case kB => exact locs rfl); (case c2 => exact rfl); (case c3 => exact rfl); (case c4 => exact rfl); k_whole; intro g' L' h' FG' F' N' B' X' T'; (try dsimp only); (try k_lift B'); (try k_fold)); (try ((rename Fr _ _ _ _ => F8); (first | (have F9 := Fr_as F8 (m' := fun y9 => List.lookup y9 [(Str.ofString "method", (.str (Str.ofString "sarkawag") z : Value)), (Str.ofString "day", (.int d v : Value)), (Str.ofString "month", (.int m u : Value)), (Str.ofString "year", (.int y t : Value))]) rfl) | (have F9 := Fr_as F8 (m' := fun y9 => List.lookup y9 [(Str.ofString "year", (.int y t : Value)), (Str.ofString "month", (.int m u : Value)), (Str.ofString "day", (.int d v : Value)), (Str.ofString "method", (.str (Str.ofString "sarkawag") z : Value))]) rfl)); clear F8));  k_steps; all_goals (first | (((first | (with_reducible refine' hret 0 ?_ ?_ ?cbF ?cbN) | (with_reducible refine' hret _ ?_ ?_ ?cbF ?cbN))); (case cbF => k_asm); (case cbN => first | (with_reducible assumption) | (refine' cb_drop ?cbM ?cbS; (case cbM => assumption); (case cbS => (first | (intro p9 hp9; (repeat (with_reducible refine List.mem_cons_of_mem _ ?_)); exact hp9) | kcj_all))))) | cb_end hret))))) only [↓gate_true]
end
section
local macro_rules | `(tactic| walk_at "pad") => `(tactic| fail)
local macro_rules | `(tactic| walk_at "call ref") => `(tactic| (k_here; (with_reducible show wpAny _ _ (PySem.call (Value.ref 214) [Value.int _ _, Value.int _ _, Value.int _ _, Value.none]) _ _ _); k_dflt (refine' use (c_valid_n _ _ _ _ _ _ ?hy ?hm ?hd ?hl) ?k1 ?k2 ?k3 ?k4 ?k5 ?kK ?kd ?ku ?_; (case k1 => k_asm); (case k2 => k_asm); (case k3 => k_asm); (case k4 => k_asm); (case k5 => k_asm); (case kK => first | exact rfl | assumption); (case kd => first | ((with_reducible refine' room_dp ?rdh ?rdk); (case rdh => with_reducible assumption); (case rdk => decide)) | ktr_room); (case ku => first | ((with_reducible refine' room_un ?ruh ?ruk); (case ruh => with_reducible assumption); (case ruk => decide)) | ktr_units); (case hy => (law_clear; first | omega | ((try simp only [decide_eq_true_eq, decide_eq_false_iff_not, gj, ij, cj, jj, aj, sj, leapS] at *); first | done | omega))); (case hm => (law_clear; first | omega | ((try simp only [decide_eq_true_eq, decide_eq_false_iff_not, gj, ij, cj, jj, aj, sj, leapS] at *); first | done | omega))); (case hd => (law_clear; first | omega | ((try simp only [decide_eq_true_eq, decide_eq_false_iff_not, gj, ij, cj, jj, aj, sj, leapS] at *); first | done | omega))); (case hl => (law_clear; first | omega | ((try simp only [decide_eq_true_eq, decide_eq_false_iff_not, gj, ij, cj, jj, aj, sj, leapS] at *); first | done | omega))); intro t9 h9 tk9 F9 N9; (try dsimp only); (try k_fold))))
local macro_rules | `(tactic| walk_at "call ref") => `(tactic| (k_here; (with_reducible show wpAny _ _ (PySem.call (Value.ref 214) [Value.int _ _, Value.int _ _, Value.int _ _, Value.str (Str.ofString "sarkawag") _]) _ _ _); k_dflt (refine' use (c_valid_s _ _ _ _ _ _ _ ?hy ?hm ?hd ?hl) ?k1 ?k2 ?k3 ?k4 ?k5 ?kK ?kd ?ku ?_; (case k1 => k_asm); (case k2 => k_asm); (case k3 => k_asm); (case k4 => k_asm); (case k5 => k_asm); (case kK => first | exact rfl | assumption); (case kd => first | ((with_reducible refine' room_dp ?rdh ?rdk); (case rdh => with_reducible assumption); (case rdk => decide)) | ktr_room); (case ku => first | ((with_reducible refine' room_un ?ruh ?ruk); (case ruh => with_reducible assumption); (case ruk => decide)) | ktr_units); (case hy => (law_clear; first | omega | ((try simp only [decide_eq_true_eq, decide_eq_false_iff_not, gj, ij, cj, jj, aj, sj, leapS] at *); first | done | omega))); (case hm => (law_clear; first | omega | ((try simp only [decide_eq_true_eq, decide_eq_false_iff_not, gj, ij, cj, jj, aj, sj, leapS] at *); first | done | omega))); (case hd => (law_clear; first | omega | ((try simp only [decide_eq_true_eq, decide_eq_false_iff_not, gj, ij, cj, jj, aj, sj, leapS] at *); first | done | omega))); (case hl => (law_clear; first | omega | ((try simp only [decide_eq_true_eq, decide_eq_false_iff_not, gj, ij, cj, jj, aj, sj, leapS] at *); first | done | omega))); intro t9 h9 tk9 F9 N9; (try dsimp only); (try k_fold))))
local macro_rules | `(tactic| walk_at "eval Name") => `(tactic| (k_here; k_dflt (first | (name_kind "local"; refine' nameX_L ?F ?v ?_ ?a ?b ?c; (case F => k_asm); (case a => kernel_rfl); (case b => kernel_rfl); (case c => kernel_rfl); (case v => first | (refine' look_of ?gg ?ge; (case gg => (repeat (first | (with_reducible exact guess_hit_l) | (with_reducible apply guess_miss_l) | (with_reducible exact guess_hit_if) | ((with_reducible show Guess (@ite _ _ _ _ _) _); (with_reducible apply guess_miss_if))))); (case ge => kernel_rfl)) | exact rfl)) | (name_kind "globalImplicit"; refine' nameX_K ?F ?X ?T ?e ?_ ?a ?b ?c; (case F => k_asm); (case X => k_asm); (case T => k_asm); (case e => with_reducible (first | exact gn_valid_date _ | exact gn_trunc _ | exact gn_EPOCH_armenian _ | exact gn_EPOCH_SARKAWAG _)); (case a => kernel_rfl); (case b => kernel_rfl); (case c => kernel_rfl)))))
set_option maxRecDepth 100000 in
set_option maxHeartbeats 8000000 in
theorem c_tojd_n (y m d : Int) (t u v : Tok) (hy : 1 ≤ y ∧ y < 30000000) (hm : 1 ≤ m ∧ m ≤ 13) (hd : 1 ≤ d ∧ d ≤ 30) (hl : m ≠ 13 ∨ d ≤ 5) :
    Claim 229 [.int y t, .int m u, .int d v, .none] 3 (RetV fun t => .float (H (2 * aj y m d - 1)) t) := by
  refine gate_out ?_
  simp (disch := (k_dflt (
  intro prog w p loose mean mg mb dp un gd cn cs a ccd cl outer A₀ base h₀ L mm news s Q E B F X N T hk hdp hun hret
  (refine wpAny_call ?_; k_dflt (refine' code_def ?k1 ?k2 ?k3 ?k4 ?k5 ?kA ?kF ?kK ?k6 ?k7 ?k8 ?k9 ?kB ?_ ?c2 ?c3 ?c4 ?c5; (case kA => exact rfl); (case kF => exact rfl); (case kK => assumption); (case k1 => k_asm); (case k2 => k_asm); (case k3 => k_asm); (case k4 => k_asm); (case k5 => k_asm); (case k6 => k_is); (case k7 => k_is); (case k8 => ktr_room); (case k9 => exact binds_K (by k_in) rfl (by k_is) rfl rfl rfl); (case c5 => decide); (case kB => exact locs rfl); (case c2 => exact rfl); (case c3 => exact rfl); (case c4 => exact rfl); k_whole; intro g' L' h' FG' F' N' B' X' T'; (try dsimp only); (try k_lift B'); (try k_fold)); (try ((rename Fr _ _ _ _ => F8); (first | (have F9 := Fr_as F8 (m' := fun y9 => List.lookup y9 [(Str.ofString "method", (.none : Value)), (Str.ofString "day", (.int d v : Value)), (Str.ofString "month", (.int m u : Value)), (Str.ofString "year", (.int y t : Value))]) rfl) | (have F9 := Fr_as F8 (m' := fun y9 => List.lookup y9 [(Str.ofString "year", (.int y t : Value)), (Str.ofString "month", (.int m u : Value)), (Str.ofString "day", (.int d v : Value)), (Str.ofString "method", (.none : Value))]) rfl)); clear F8));  k_steps; all_goals (refine' ret_F hret ?e1 ?e2 ?e3; (case e2 => k_asm); (case e3 => first | k_asm | (refine' cb_drop ?cbN ?cbS; (case cbN => assumption); (case cbS => (first | (intro p9 hp9; (repeat (with_reducible refine List.mem_cons_of_mem _ ?_)); exact hp9) | kcj_all)))); (case e1 => (law_clear; (try simp only [decide_eq_true_eq, decide_eq_false_iff_not] at *); (unfold aj; omega)))))))) only [↓gate_true]
end
section
local macro_rules | `(tactic| walk_at "call ref") => `(tactic| (k_here; (with_reducible show wpAny _ _ (PySem.call (Value.ref 214) [Value.int _ _, Value.int _ _, Value.int _ _, Value.none]) _ _ _); k_dflt (refine' use (c_valid_n _ _ _ _ _ _ ?hy ?hm ?hd ?hl) ?k1 ?k2 ?k3 ?k4 ?k5 ?kK ?kd ?ku ?_; (case k1 => k_asm); (case k2 => k_asm); (case k3 => k_asm); (case k4 => k_asm); (case k5 => k_asm); (case kK => first | exact rfl | assumption); (case kd => first | ((with_reducible refine' room_dp ?rdh ?rdk); (case rdh => with_reducible assumption); (case rdk => decide)) | ktr_room); (case ku => first | ((with_reducible refine' room_un ?ruh ?ruk); (case ruh => with_reducible assumption); (case ruk => decide)) | ktr_units); (case hy => (law_clear; first | omega | ((try simp only [decide_eq_true_eq, decide_eq_false_iff_not, gj, ij, cj, jj, aj, sj, leapS] at *); first | done | omega))); (case hm => (law_clear; first | omega | ((try simp only [decide_eq_true_eq, decide_eq_false_iff_not, gj, ij, cj, jj, aj, sj, leapS] at *); first | done | omega))); (case hd => (law_clear; first | omega | ((try simp only [decide_eq_true_eq, decide_eq_false_iff_not, gj, ij, cj, jj, aj, sj, leapS] at *); first | done | omega))); (case hl => (law_clear; first | omega | ((try simp only [decide_eq_true_eq, decide_eq_false_iff_not, gj, ij, cj, jj, aj, sj, leapS] at *); first | done | omega))); intro t9 h9 tk9 F9 N9; (try dsimp only); (try k_fold))))
local macro_rules | `(tactic| walk_at "call ref") => `(tactic| (k_here; (with_reducible show wpAny _ _ (PySem.call (Value.ref 214) [Value.int _ _, Value.int _ _, Value.int _ _, Value.str (Str.ofString "sarkawag") _]) _ _ _); k_dflt (refine' use (c_valid_s _ _ _ _ _ _ _ ?hy ?hm ?hd ?hl) ?k1 ?k2 ?k3 ?k4 ?k5 ?kK ?kd ?ku ?_; (case k1 => k_asm); (case k2 => k_asm); (case k3 => k_asm); (case k4 => k_asm); (case k5 => k_asm); (case kK => first | exact rfl | assumption); (case kd => first | ((with_reducible refine' room_dp ?rdh ?rdk); (case rdh => with_reducible assumption); (case rdk => decide)) | ktr_room); (case ku => first | ((with_reducible refine' room_un ?ruh ?ruk); (case ruh => with_reducible assumption); (case ruk => decide)) | ktr_units); (case hy => (law_clear; first | omega | ((try simp only [decide_eq_true_eq, decide_eq_false_iff_not, gj, ij, cj, jj, aj, sj, leapS] at *); first | done | omega))); (case hm => (law_clear; first | omega | ((try simp only [decide_eq_true_eq, decide_eq_false_iff_not, gj, ij, cj, jj, aj, sj, leapS] at *); first | done | omega))); (case hd => (law_clear; first | omega | ((try simp only [decide_eq_true_eq, decide_eq_false_iff_not, gj, ij, cj, jj, aj, sj, leapS] at *); first | done | omega))); (case hl => (law_clear; first | omega | ((try simp only [decide_eq_true_eq, decide_eq_false_iff_not, gj, ij, cj, jj, aj, sj, leapS] at *); first | done | omega))); intro t9 h9 tk9 F9 N9; (try dsimp only); (try k_fold))))
local macro_rules | `(tactic| walk_at "eval Name") => `(tactic| (k_here; k_dflt (first | (name_kind "local"; refine' nameX_L ?F ?v ?_ ?a ?b ?c; (case F => k_asm); (case a => kernel_rfl); (case b => kernel_rfl); (case c => kernel_rfl); (case v => first | (refine' look_of ?gg ?ge; (case gg => (repeat (first | (with_reducible exact guess_hit_l) | (with_reducible apply guess_miss_l) | (with_reducible exact guess_hit_if) | ((with_reducible show Guess (@ite _ _ _ _ _) _); (with_reducible apply guess_miss_if))))); (case ge => kernel_rfl)) | exact rfl)) | (name_kind "globalImplicit"; refine' nameX_K ?F ?X ?T ?e ?_ ?a ?b ?c; (case F => k_asm); (case X => k_asm); (case T => k_asm); (case e => with_reducible (first | exact gn_valid_date _ | exact gn_trunc _ | exact gn_EPOCH_armenian _ | exact gn_EPOCH_SARKAWAG _)); (case a => kernel_rfl); (case b => kernel_rfl); (case c => kernel_rfl)))))
set_option maxRecDepth 100000 in
set_option maxHeartbeats 8000000 in
theorem c_tojd_s (y m d : Int) (t u v z : Tok) (hy : 533 ≤ y ∧ y < 30000000) (hm : 1 ≤ m ∧ m ≤ 13) (hd : 1 ≤ d ∧ d ≤ 30) (hl : m ≠ 13 ∨ d ≤ 5 ∨ (d ≤ 6 ∧ y % 4 = 0)) :
    Claim 229 [.int y t, .int m u, .int d v, .str (Str.ofString "sarkawag") z] 4 (RetV fun t => .float (H (2 * sj y m d - 1)) t) := by
  refine gate_out ?_
  simp (disch := (k_dflt (
  intro prog w p loose mean mg mb dp un gd cn cs a ccd cl outer A₀ base h₀ L mm news s Q E B F X N T hk hdp hun hret
  (refine wpAny_call ?_; k_dflt (refine' code_def ?k1 ?k2 ?k3 ?k4 ?k5 ?kA ?kF ?kK ?k6 ?k7 ?k8 ?k9 ?kB ?_ ?c2 ?c3 ?c4 ?c5; (case kA => exact rfl); (case kF => exact rfl); (case kK => assumption); (case k1 => k_asm); (case k2 => k_asm); (case k3 => k_asm); (case k4 => k_asm); (case k5 => k_asm); (case k6 => k_is); (case k7 => k_is); (case k8 => ktr_room); (case k9 => exact binds_K (by k_in) rfl (by k_is) rfl rfl rfl); (case c5 => decide); (case kB => exact locs rfl); (case c2 => exact rfl); (case c3 => exact rfl); (case c4 => exact rfl); k_whole; intro g' L' h' FG' F' N' B' X' T'; (try dsimp only); (try k_lift B'); (try k_fold)); (try ((rename Fr _ _ _ _ => F8); (first | (have F9 := Fr_as F8 (m' := fun y9 => List.lookup y9 [(Str.ofString "method", (.str (Str.ofString "sarkawag") z : Value)), (Str.ofString "day", (.int d v : Value)), (Str.ofString "month", (.int m u : Value)), (Str.ofString "year", (.int y t : Value))]) rfl) | (have F9 := Fr_as F8 (m' := fun y9 => List.lookup y9 [(Str.ofString "year", (.int y t : Value)), (Str.ofString "month", (.int m u : Value)), (Str.ofString "day", (.int d v : Value)), (Str.ofString "method", (.str (Str.ofString "sarkawag") z : Value))]) rfl)); clear F8));  k_steps; all_goals (refine' ret_F hret ?e1 ?e2 ?e3; (case e2 => k_asm); (case e3 => first | k_asm | (refine' cb_drop ?cbN ?cbS; (case cbN => assumption); (case cbS => (first | (intro p9 hp9; (repeat (with_reducible refine List.mem_cons_of_mem _ ?_)); exact hp9) | kcj_all)))); (case e1 => (law_clear; (try simp only [decide_eq_true_eq, decide_eq_false_iff_not] at *); (unfold sj; omega)))))))) only [↓gate_true]
end
theorem c_tojd_arm_at (day : Int) (t u v : Tok) (hd : 1922868 ≤ day ∧ day < 10000000000) :
    Claim 229 [.int (armY day) t, .int (armM day) u, .int (armD day) v, .none] 3 (RetV fun t => .float (H (2 * day - 1)) t) := by
  have e := aj_arm day
  obtain ⟨f1, f2, f3⟩ := arm_year day
  obtain ⟨g1, g2⟩ := arm_month day
  have h := c_tojd_n (armY day) (armM day) (armD day) t u v (by omega) (by omega) (by omega) (by omega)
  rw [e] at h
  exact h
theorem c_tojd_sar_at (day : Int) (t u v z : Tok) (hd : 2117212 ≤ day ∧ day < 10000000000) :
    Claim 229 [.int (sarY day) t, .int (sarM day) u, .int (sarD day) v, .str (Str.ofString "sarkawag") z] 4 (RetV fun t => .float (H (2 * day - 1)) t) := by
  have e := sj_sar day
  obtain ⟨f1, f2, f3, f4⟩ := sar_year day
  obtain ⟨g1, g2⟩ := sar_month day
  have h := c_tojd_s (sarY day) (sarM day) (sarD day) t u v z (by omega) (by omega) (by omega) (by omega)
  rw [e] at h
  exact h
section
local macro_rules | `(tactic| walk_at "eval Name") => `(tactic| (k_here; k_dflt (first | (name_kind "local"; refine' nameX_L ?F ?v ?_ ?a ?b ?c; (case F => k_asm); (case a => kernel_rfl); (case b => kernel_rfl); (case c => kernel_rfl); (case v => first | (refine' look_of ?gg ?ge; (case gg => (repeat (first | (with_reducible exact guess_hit_l) | (with_reducible apply guess_miss_l) | (with_reducible exact guess_hit_if) | ((with_reducible show Guess (@ite _ _ _ _ _) _); (with_reducible apply guess_miss_if))))); (case ge => kernel_rfl)) | exact rfl)) | (name_kind "globalImplicit"; refine' nameX_K ?F ?X ?T ?e ?_ ?a ?b ?c; (case F => k_asm); (case X => k_asm); (case T => k_asm); (case e => with_reducible (first | exact gn_EPOCH_armenian _ | exact gn_trunc _ | exact gn_EPOCH_SARKAWAG _)); (case a => kernel_rfl); (case b => kernel_rfl); (case c => kernel_rfl)) | (name_kind "globalImplicit"; refine' nameX_B ?F ?X ?T ?e ?v ?n ?_ ?a ?b ?c; (case F => k_asm); (case X => k_asm); (case T => k_asm); (case e => with_reducible (first | exact gb_ValueError _)); (case v => with_reducible (first | exact bb_ValueError)); (case a => kernel_rfl); (case b => kernel_rfl); (case n => decide); (case c => kernel_rfl)))))
set_option maxRecDepth 100000 in
set_option maxHeartbeats 8000000 in
theorem c_fromjd_arm (day : Int) (t : Tok) (hd : 1922868 ≤ day ∧ day < 10000000000) :
    Claim 237 [.float (H (2 * day - 1)) t, .none] 2 (RetT3 (armY day) (armM day) (armD day)) := by
  refine gate_out ?_
  simp (disch := (k_dflt (
  intro prog w p loose mean mg mb dp un gd cn cs a ccd cl outer A₀ base h₀ L mm news s Q E B F X N T hk hdp hun hret
  obtain ⟨f1, f2, f3⟩ := arm_year day
  obtain ⟨g1, g2⟩ := arm_month day
  generalize armY day = Y at *
  generalize armR day = R at *
  generalize armM day = M at *
  generalize armD day = D at *
  obtain ⟨n, hn⟩ : ∃ n, n = day - 1922502 := ⟨_, rfl⟩
  have hnb : 366 ≤ n ∧ n < 20000000000 := by omega
  have hYb : 1 ≤ Y ∧ Y < 30000000 := by omega
  have hMb : 1 ≤ M ∧ M ≤ 13 := by omega
  have hRb : 0 ≤ R ∧ R < 365 := by omega
  have hDb : 1 ≤ D ∧ D ≤ 30 := by omega
  have e1 : Hint (2 * day - 1 - 3845003) (2 * n) := ⟨by omega⟩
  have e2 : Hint (2 * n - 2 * 1) (2 * (n - 1)) := ⟨by omega⟩
  have e3 : Hint (2 * (n - 1) / (2 * 365)) Y := ⟨by omega⟩
  have e4 : Hint (2 * (n - 1) % (2 * 365)) (2 * R) := ⟨by omega⟩
  have e5 : Hint (2 * R / (2 * 30)) (M - 1) := ⟨by omega⟩
  have e6 : Hint (M - 1 + 1) M := ⟨by omega⟩
  have e7 : Hint (2 * n - 2 * (365 * Y)) (2 * (R + 1)) := ⟨by omega⟩
  have e8 : Hint (2 * (R + 1) - 2 * (30 * (M - 1))) (2 * D) := ⟨by omega⟩
  have e9 : Hint (2 * D / 2) D := ⟨by omega⟩
  clear f1 f2 f3 g1 g2 hn
  (refine wpAny_call ?_; k_dflt (refine' code_def ?k1 ?k2 ?k3 ?k4 ?k5 ?kA ?kF ?kK ?k6 ?k7 ?k8 ?k9 ?kB ?_ ?c2 ?c3 ?c4 ?c5; (case kA => exact rfl); (case kF => exact rfl); (case kK => assumption); (case k1 => k_asm); (case k2 => k_asm); (case k3 => k_asm); (case k4 => k_asm); (case k5 => k_asm); (case k6 => k_is); (case k7 => k_is); (case k8 => ktr_room); (case k9 => exact binds_K (by k_in) rfl (by k_is) rfl rfl rfl); (case c5 => decide); (case kB => exact locs rfl); (case c2 => exact rfl); (case c3 => exact rfl); (case c4 => exact rfl); k_whole; intro g' L' h' FG' F' N' B' X' T'; (try dsimp only); (try k_lift B'); (try k_fold)); (try ((rename Fr _ _ _ _ => F8); (first | (have F9 := Fr_as F8 (m' := fun y9 => List.lookup y9 [(Str.ofString "method", (.none : Value)), (Str.ofString "jd", (.float (H (2 * day - 1)) t : Value))]) rfl) | (have F9 := Fr_as F8 (m' := fun y9 => List.lookup y9 [(Str.ofString "jd", (.float (H (2 * day - 1)) t : Value)), (Str.ofString "method", (.none : Value))]) rfl)); clear F8));  k_steps; all_goals (refine' ret_T3 hret ?e1 ?e2 ?e3 ?F ?NM ?hs; (case F => k_asm); (case NM => (refine' ⟨?n1, ?n2⟩; (case n1 => k_asm); (case n2 => k_mem))); (case hs => (first | (intro p9 hp9; (repeat (with_reducible refine List.mem_cons_of_mem _ ?_)); exact hp9) | kcj_all)); (case e1 => (with_reducible exact rfl)); (case e2 => (with_reducible exact rfl)); (case e3 => (with_reducible exact rfl))))))) only [↓gate_true]
end
section
local macro_rules | `(tactic| walk_at "pad") => `(tactic| fail)
local macro_rules | `(tactic| walk_at "eval Name") => `(tactic| (k_here; k_dflt (first | (name_kind "local"; refine' nameX_L ?F ?v ?_ ?a ?b ?c; (case F => k_asm); (case a => kernel_rfl); (case b => kernel_rfl); (case c => kernel_rfl); (case v => first | (refine' look_of ?gg ?ge; (case gg => (repeat (first | (with_reducible exact guess_hit_l) | (with_reducible apply guess_miss_l) | (with_reducible exact guess_hit_if) | ((with_reducible show Guess (@ite _ _ _ _ _) _); (with_reducible apply guess_miss_if))))); (case ge => kernel_rfl)) | exact rfl)) | (name_kind "globalImplicit"; refine' nameX_K ?F ?X ?T ?e ?_ ?a ?b ?c; (case F => k_asm); (case X => k_asm); (case T => k_asm); (case e => with_reducible (first | exact gn_EPOCH_armenian _ | exact gn_trunc _ | exact gn_EPOCH_SARKAWAG _)); (case a => kernel_rfl); (case b => kernel_rfl); (case c => kernel_rfl)) | (name_kind "globalImplicit"; refine' nameX_B ?F ?X ?T ?e ?v ?n ?_ ?a ?b ?c; (case F => k_asm); (case X => k_asm); (case T => k_asm); (case e => with_reducible (first | exact gb_ValueError _)); (case v => with_reducible (first | exact bb_ValueError)); (case a => kernel_rfl); (case b => kernel_rfl); (case n => decide); (case c => kernel_rfl)))))
set_option maxRecDepth 100000 in
set_option maxHeartbeats 8000000 in
theorem c_fromjd_sar (day : Int) (t z : Tok) (hd : 2117212 ≤ day ∧ day < 10000000000) :
    Claim 237 [.float (H (2 * day - 1)) t, .str (Str.ofString "sarkawag") z] 2 (RetT3 (sarY day) (sarM day) (sarD day)) := by
  refine gate_out ?_
  simp (disch := (k_dflt (
  intro prog w p loose mean mg mb dp un gd cn cs a ccd cl outer A₀ base h₀ L mm news s Q E B F X N T hk hdp hun hret
  obtain ⟨f1, f2, f3, f4⟩ := sar_year day
  obtain ⟨g1, g2⟩ := sar_month day
  generalize sarY day = Y at *
  generalize sarR day = R at *
  generalize sarS day = S at *
  generalize sarM day = M at *
  generalize sarD day = D at *
  obtain ⟨n, hn⟩ : ∃ n, n = day - 2117211 := ⟨_, rfl⟩
  obtain ⟨yy, hyy⟩ : ∃ yy, 2 * (2 * n) / 1461 = yy := ⟨_, rfl⟩
  obtain ⟨yd, hyd⟩ : ∃ yd, yd = n - (365 * yy + yy / 4) := ⟨_, rfl⟩
  have hk : (yd = 0 ∧ yy - 1 + 533 = Y ∧ R = 365 ∧ yy % 4 = 0 ∧ S = 366) ∨ (1 ≤ yd ∧ yy + 533 = Y ∧ R = yd - 1) := by
    obtain ⟨q, j, hq, hj⟩ : ∃ q j : Int, Y = 533 + 4 * q + j ∧ (j = 0 ∨ j = 1 ∨ j = 2 ∨ j = 3) := ⟨(Y - 533) / 4, (Y - 533) % 4, by omega, by omega⟩
    clear g1 g2
    rcases hj with rfl | rfl | rfl | rfl
    · have a1 : (Y - 533) / 4 = q := by omega
      have a2 : S = 365 := by omega
      have a3 : yy = 4 * q := by omega
      right; omega
    · have a1 : (Y - 533) / 4 = q := by omega
      have a2 : S = 365 := by omega
      have a3 : yy = 4 * q + 1 := by omega
      right; omega
    · have a1 : (Y - 533) / 4 = q := by omega
      have a2 : S = 365 := by omega
      have a3 : yy = 4 * q + 2 := by omega
      right; omega
    · have a1 : (Y - 533) / 4 = q := by omega
      have a2 : S = 366 := by omega
      by_cases hR : R = 365
      · have a3 : yy = 4 * q + 4 := by omega
        left; omega
      · have a3 : yy = 4 * q + 3 := by omega
        right; omega
  have hb : 1 ≤ n ∧ n < 20000000000 ∧ 0 ≤ yy ∧ yy < 30000000 ∧ 0 ≤ yd ∧ yd ≤ 366 := by omega
  have hMb : 1 ≤ M ∧ M ≤ 13 := by omega
  have hDb : 1 ≤ D ∧ D ≤ 30 := by omega
  have hSb : S = 365 ∨ S = 366 := by omega
  have hM : M = R / 30 + 1 := g1
  have hD : D = R - 30 * (M - 1) + 1 := by omega
  have hRb : 0 ≤ R ∧ R < S := by omega
  have e1 : Hint (2 * day - 1 - 4234421) (2 * n) := ⟨by omega⟩
  have e2 : Hint (2 * (2 * n) / 1461) yy := ⟨hyy⟩
  have e3 : Hint (2 * n - 2 * (365 * yy + yy / 4)) (2 * yd) := ⟨by omega⟩
  clear f1 f2 f3 f4 g1 g2 hn hyy hyd
  rcases hk with ⟨k1, k2, k3, k4, k5⟩ | ⟨k1, k2, k3⟩
  · subst k3
    (refine wpAny_call ?_; k_dflt (refine' code_def ?k1 ?k2 ?k3 ?k4 ?k5 ?kA ?kF ?kK ?k6 ?k7 ?k8 ?k9 ?kB ?_ ?c2 ?c3 ?c4 ?c5; (case kA => exact rfl); (case kF => exact rfl); (case kK => assumption); (case k1 => k_asm); (case k2 => k_asm); (case k3 => k_asm); (case k4 => k_asm); (case k5 => k_asm); (case k6 => k_is); (case k7 => k_is); (case k8 => ktr_room); (case k9 => exact binds_K (by k_in) rfl (by k_is) rfl rfl rfl); (case c5 => decide); (case kB => exact locs rfl); (case c2 => exact rfl); (case c3 => exact rfl); (case c4 => exact rfl); k_whole; intro g' L' h' FG' F' N' B' X' T'; (try dsimp only); (try k_lift B'); (try k_fold)); (try ((rename Fr _ _ _ _ => F8); (first | (have F9 := Fr_as F8 (m' := fun y9 => List.lookup y9 [(Str.ofString "method", (.str (Str.ofString "sarkawag") z : Value)), (Str.ofString "jd", (.float (H (2 * day - 1)) t : Value))]) rfl) | (have F9 := Fr_as F8 (m' := fun y9 => List.lookup y9 [(Str.ofString "jd", (.float (H (2 * day - 1)) t : Value)), (Str.ofString "method", (.str (Str.ofString "sarkawag") z : Value))]) rfl)); clear F8));  k_steps; all_goals (refine' ret_T3 hret ?e1 ?e2 ?e3 ?F ?NM ?hs; (case F => k_asm); (case NM => (refine' ⟨?n1, ?n2⟩; (case n1 => k_asm); (case n2 => k_mem))); (case hs => (first | (intro p9 hp9; (repeat (with_reducible refine List.mem_cons_of_mem _ ?_)); exact hp9) | kcj_all)); (case e1 => (law_clear; (try simp only [decide_eq_true_eq, decide_eq_false_iff_not] at *); first | done | omega)); (case e2 => (law_clear; (try simp only [decide_eq_true_eq, decide_eq_false_iff_not] at *); first | done | omega)); (case e3 => (law_clear; (try simp only [decide_eq_true_eq, decide_eq_false_iff_not] at *); first | done | omega))))
  · have e4 : Hint (2 * yd - 2 * 1) (2 * R) := ⟨by omega⟩
    have e5 : Hint (2 * R / (2 * 30)) (M - 1) := ⟨by omega⟩
    have e7 : Hint (2 * yd - 2 * (30 * (M - 1))) (2 * D) := ⟨by omega⟩
    have e8 : Hint (2 * D / 2) D := ⟨by omega⟩
    (refine wpAny_call ?_; k_dflt (refine' code_def ?k1 ?k2 ?k3 ?k4 ?k5 ?kA ?kF ?kK ?k6 ?k7 ?k8 ?k9 ?kB ?_ ?c2 ?c3 ?c4 ?c5; (case kA => exact rfl); (case kF => exact rfl); (case kK => assumption); (case k1 => k_asm); (case k2 => k_asm); (case k3 => k_asm); (case k4 => k_asm); (case k5 => k_asm); (case k6 => k_is); (case k7 => k_is); (case k8 => ktr_room); (case k9 => exact binds_K (by k_in) rfl (by k_is) rfl rfl rfl); (case c5 => decide); (case kB => exact locs rfl); (case c2 => exact rfl); (case c3 => exact rfl); (case c4 => exact rfl); k_whole; intro g' L' h' FG' F' N' B' X' T'; (try dsimp only); (try k_lift B'); (try k_fold)); (try ((rename Fr _ _ _ _ => F8); (first | (have F9 := Fr_as F8 (m' := fun y9 => List.lookup y9 [(Str.ofString "method", (.str (Str.ofString "sarkawag") z : Value)), (Str.ofString "jd", (.float (H (2 * day - 1)) t : Value))]) rfl) | (have F9 := Fr_as F8 (m' := fun y9 => List.lookup y9 [(Str.ofString "jd", (.float (H (2 * day - 1)) t : Value)), (Str.ofString "method", (.str (Str.ofString "sarkawag") z : Value))]) rfl)); clear F8));  k_steps; all_goals (refine' ret_T3 hret ?e1 ?e2 ?e3 ?F ?NM ?hs; (case F => k_asm); (case NM => (refine' ⟨?n1, ?n2⟩; (case n1 => k_asm); (case n2 => k_mem))); (case hs => (first | (intro p9 hp9; (repeat (with_reducible refine List.mem_cons_of_mem _ ?_)); exact hp9) | kcj_all)); (case e1 => (law_clear; (try simp only [decide_eq_true_eq, decide_eq_false_iff_not] at *); first | done | omega)); (case e2 => (law_clear; (try simp only [decide_eq_true_eq, decide_eq_false_iff_not] at *); first | done | omega)); (case e3 => (law_clear; (try simp only [decide_eq_true_eq, decide_eq_false_iff_not] at *); first | done | omega))))))) only [↓gate_true]
end
section
local macro_rules | `(tactic| walk_at "call ref") => `(tactic| (k_here; (with_reducible show wpAny _ _ (PySem.call (Value.ref 185) [Value.float (H (2 * _ - 1)) _]) _ _ _); k_dflt (refine' use (c_fromjd_jul _ _ ?hd) ?k1 ?k2 ?k3 ?k4 ?k5 ?kK ?kd ?ku ?_; (case k1 => k_asm); (case k2 => k_asm); (case k3 => k_asm); (case k4 => k_asm); (case k5 => k_asm); (case kK => first | exact rfl | assumption); (case kd => first | ((with_reducible refine' room_dp ?rdh ?rdk); (case rdh => with_reducible assumption); (case rdk => decide)) | ktr_room); (case ku => first | ((with_reducible refine' room_un ?ruh ?ruk); (case ruh => with_reducible assumption); (case ruk => decide)) | ktr_units); (case hd => (law_clear; first | omega | ((try simp only [decide_eq_true_eq, decide_eq_false_iff_not, gj, ij, cj, jj, aj, sj, leapS] at *); first | done | omega))); intro D9 t9 u9 v9 h9 tk9 F9 N9; (try dsimp only); (try k_fold))))
local macro_rules | `(tactic| walk_at "call ref") => `(tactic| (k_here; (with_reducible show wpAny _ _ (PySem.call (Value.ref 229) [Value.int _ _, Value.int _ _, Value.int _ _, Value.none]) _ _ _); k_dflt (refine' use (c_tojd_n _ _ _ _ _ _ ?hy ?hm ?hd ?hl) ?k1 ?k2 ?k3 ?k4 ?k5 ?kK ?kd ?ku ?_; (case k1 => k_asm); (case k2 => k_asm); (case k3 => k_asm); (case k4 => k_asm); (case k5 => k_asm); (case kK => first | exact rfl | assumption); (case kd => first | ((with_reducible refine' room_dp ?rdh ?rdk); (case rdh => with_reducible assumption); (case rdk => decide)) | ktr_room); (case ku => first | ((with_reducible refine' room_un ?ruh ?ruk); (case ruh => with_reducible assumption); (case ruk => decide)) | ktr_units); (case hy => (law_clear; first | omega | ((try simp only [decide_eq_true_eq, decide_eq_false_iff_not, gj, ij, cj, jj, aj, sj, leapS] at *); first | done | omega))); (case hm => (law_clear; first | omega | ((try simp only [decide_eq_true_eq, decide_eq_false_iff_not, gj, ij, cj, jj, aj, sj, leapS] at *); first | done | omega))); (case hd => (law_clear; first | omega | ((try simp only [decide_eq_true_eq, decide_eq_false_iff_not, gj, ij, cj, jj, aj, sj, leapS] at *); first | done | omega))); (case hl => (law_clear; first | omega | ((try simp only [decide_eq_true_eq, decide_eq_false_iff_not, gj, ij, cj, jj, aj, sj, leapS] at *); first | done | omega))); intro t9 h9 tk9 F9 N9; (try dsimp only); (try k_fold))))
local macro_rules | `(tactic| walk_at "call ref") => `(tactic| (k_here; (with_reducible show wpAny _ _ (PySem.call (Value.ref 229) [Value.int _ _, Value.int _ _, Value.int _ _, Value.str (Str.ofString "sarkawag") _]) _ _ _); k_dflt (refine' use (c_tojd_s _ _ _ _ _ _ _ ?hy ?hm ?hd ?hl) ?k1 ?k2 ?k3 ?k4 ?k5 ?kK ?kd ?ku ?_; (case k1 => k_asm); (case k2 => k_asm); (case k3 => k_asm); (case k4 => k_asm); (case k5 => k_asm); (case kK => first | exact rfl | assumption); (case kd => first | ((with_reducible refine' room_dp ?rdh ?rdk); (case rdh => with_reducible assumption); (case rdk => decide)) | ktr_room); (case ku => first | ((with_reducible refine' room_un ?ruh ?ruk); (case ruh => with_reducible assumption); (case ruk => decide)) | ktr_units); (case hy => (law_clear; first | omega | ((try simp only [decide_eq_true_eq, decide_eq_false_iff_not, gj, ij, cj, jj, aj, sj, leapS] at *); first | done | omega))); (case hm => (law_clear; first | omega | ((try simp only [decide_eq_true_eq, decide_eq_false_iff_not, gj, ij, cj, jj, aj, sj, leapS] at *); first | done | omega))); (case hd => (law_clear; first | omega | ((try simp only [decide_eq_true_eq, decide_eq_false_iff_not, gj, ij, cj, jj, aj, sj, leapS] at *); first | done | omega))); (case hl => (law_clear; first | omega | ((try simp only [decide_eq_true_eq, decide_eq_false_iff_not, gj, ij, cj, jj, aj, sj, leapS] at *); first | done | omega))); intro t9 h9 tk9 F9 N9; (try dsimp only); (try k_fold))))
local macro_rules | `(tactic| walk_at "call ref") => `(tactic| (k_here; (with_reducible show wpAny _ _ (PySem.call (Value.ref 229) [Value.int (armY _) _, Value.int (armM _) _, Value.int (armD _) _, Value.none]) _ _ _); k_dflt (refine' use (c_tojd_arm_at _ _ _ _ ?hd) ?k1 ?k2 ?k3 ?k4 ?k5 ?kK ?kd ?ku ?_; (case k1 => k_asm); (case k2 => k_asm); (case k3 => k_asm); (case k4 => k_asm); (case k5 => k_asm); (case kK => first | exact rfl | assumption); (case kd => first | ((with_reducible refine' room_dp ?rdh ?rdk); (case rdh => with_reducible assumption); (case rdk => decide)) | ktr_room); (case ku => first | ((with_reducible refine' room_un ?ruh ?ruk); (case ruh => with_reducible assumption); (case ruk => decide)) | ktr_units); (case hd => (law_clear; first | omega | ((try simp only [decide_eq_true_eq, decide_eq_false_iff_not, gj, ij, cj, jj, aj, sj, leapS] at *); first | done | omega))); intro t9 h9 tk9 F9 N9; (try dsimp only); (try k_fold))))
local macro_rules | `(tactic| walk_at "call ref") => `(tactic| (k_here; (with_reducible show wpAny _ _ (PySem.call (Value.ref 229) [Value.int (sarY _) _, Value.int (sarM _) _, Value.int (sarD _) _, Value.str (Str.ofString "sarkawag") _]) _ _ _); k_dflt (refine' use (c_tojd_sar_at _ _ _ _ _ ?hd) ?k1 ?k2 ?k3 ?k4 ?k5 ?kK ?kd ?ku ?_; (case k1 => k_asm); (case k2 => k_asm); (case k3 => k_asm); (case k4 => k_asm); (case k5 => k_asm); (case kK => first | exact rfl | assumption); (case kd => first | ((with_reducible refine' room_dp ?rdh ?rdk); (case rdh => with_reducible assumption); (case rdk => decide)) | ktr_room); (case ku => first | ((with_reducible refine' room_un ?ruh ?ruk); (case ruh => with_reducible assumption); (case ruk => decide)) | ktr_units); (case hd => (law_clear; first | omega | ((try simp only [decide_eq_true_eq, decide_eq_false_iff_not, gj, ij, cj, jj, aj, sj, leapS] at *); first | done | omega))); intro t9 h9 tk9 F9 N9; (try dsimp only); (try k_fold))))
local macro_rules | `(tactic| walk_at "eval Name") => `(tactic| (k_here; k_dflt (first | (name_kind "local"; refine' nameX_L ?F ?v ?_ ?a ?b ?c; (case F => k_asm); (case a => kernel_rfl); (case b => kernel_rfl); (case c => kernel_rfl); (case v => first | (refine' look_of ?gg ?ge; (case gg => (repeat (first | (with_reducible exact guess_hit_l) | (with_reducible apply guess_miss_l) | (with_reducible exact guess_hit_if) | ((with_reducible show Guess (@ite _ _ _ _ _) _); (with_reducible apply guess_miss_if))))); (case ge => kernel_rfl)) | exact rfl)) | (name_kind "globalImplicit"; refine' nameX_K ?F ?X ?T ?e ?_ ?a ?b ?c; (case F => k_asm); (case X => k_asm); (case T => k_asm); (case e => with_reducible (first | exact gn_from_jd_julian _ | exact gn_to_jd_armenian _)); (case a => kernel_rfl); (case b => kernel_rfl); (case c => kernel_rfl)))))
set_option maxRecDepth 100000 in
set_option maxHeartbeats 8000000 in
theorem c_tojul_arm (day : Int) (t u v : Tok) (hd : 1922868 ≤ day ∧ day < 10000000000) :
    Claim 245 [.int (armY day) t, .int (armM day) u, .int (armD day) v, .none] 6 (RetT3 (latY day) (latM day) (latD day)) := by
  refine gate_out ?_
  simp (disch := (k_dflt (
  intro prog w p loose mean mg mb dp un gd cn cs a ccd cl outer A₀ base h₀ L mm news s Q E B F X N T hk hdp hun hret
  (refine wpAny_call ?_; k_dflt (refine' code_def ?k1 ?k2 ?k3 ?k4 ?k5 ?kA ?kF ?kK ?k6 ?k7 ?k8 ?k9 ?kB ?_ ?c2 ?c3 ?c4 ?c5; (case kA => exact rfl); (case kF => exact rfl); (case kK => assumption); (case k1 => k_asm); (case k2 => k_asm); (case k3 => k_asm); (case k4 => k_asm); (case k5 => k_asm); (case k6 => k_is); (case k7 => k_is); (case k8 => ktr_room); (case k9 => exact binds_K (by k_in) rfl (by k_is) rfl rfl rfl); (case c5 => decide); (case kB => exact locs rfl); (case c2 => exact rfl); (case c3 => exact rfl); (case c4 => exact rfl); k_whole; intro g' L' h' FG' F' N' B' X' T'; (try dsimp only); (try k_lift B'); (try k_fold)); (try ((rename Fr _ _ _ _ => F8); (first | (have F9 := Fr_as F8 (m' := fun y9 => List.lookup y9 [(Str.ofString "method", (.none : Value)), (Str.ofString "day", (.int (armD day) v : Value)), (Str.ofString "month", (.int (armM day) u : Value)), (Str.ofString "year", (.int (armY day) t : Value))]) rfl) | (have F9 := Fr_as F8 (m' := fun y9 => List.lookup y9 [(Str.ofString "year", (.int (armY day) t : Value)), (Str.ofString "month", (.int (armM day) u : Value)), (Str.ofString "day", (.int (armD day) v : Value)), (Str.ofString "method", (.none : Value))]) rfl)); clear F8));  k_steps; all_goals (refine' ret_T3 hret ?e1 ?e2 ?e3 ?F ?NM ?hs; (case F => k_asm); (case NM => (refine' ⟨?n1, ?n2⟩; (case n1 => k_asm); (case n2 => k_mem))); (case hs => (first | (intro p9 hp9; (repeat (with_reducible refine List.mem_cons_of_mem _ ?_)); exact hp9) | kcj_all)); (case e1 => (with_reducible exact rfl)); (case e2 => (with_reducible exact rfl)); (case e3 => (with_reducible exact rfl))))))) only [↓gate_true]
end
section
local macro_rules | `(tactic| walk_at "call ref") => `(tactic| (k_here; (with_reducible show wpAny _ _ (PySem.call (Value.ref 192) [Value.int _ _, Value.int _ _, Value.int _ _]) _ _ _); k_dflt (refine' use (c_tojd_jul _ _ _ _ _ _ ?hy ?hm ?hd ?hl) ?k1 ?k2 ?k3 ?k4 ?k5 ?kK ?kd ?ku ?_; (case k1 => k_asm); (case k2 => k_asm); (case k3 => k_asm); (case k4 => k_asm); (case k5 => k_asm); (case kK => first | exact rfl | assumption); (case kd => first | ((with_reducible refine' room_dp ?rdh ?rdk); (case rdh => with_reducible assumption); (case rdk => decide)) | ktr_room); (case ku => first | ((with_reducible refine' room_un ?ruh ?ruk); (case ruh => with_reducible assumption); (case ruk => decide)) | ktr_units); (case hy => (law_clear; first | omega | ((try simp only [decide_eq_true_eq, decide_eq_false_iff_not, gj, ij, cj, jj, aj, sj, leapS] at *); first | done | omega))); (case hm => (law_clear; first | omega | ((try simp only [decide_eq_true_eq, decide_eq_false_iff_not, gj, ij, cj, jj, aj, sj, leapS] at *); first | done | omega))); (case hd => (law_clear; first | omega | ((try simp only [decide_eq_true_eq, decide_eq_false_iff_not, gj, ij, cj, jj, aj, sj, leapS] at *); first | done | omega))); (case hl => (law_clear; first | omega | ((try simp only [decide_eq_true_eq, decide_eq_false_iff_not, gj, ij, cj, jj, aj, sj, leapS] at *); first | done | omega))); intro t9 h9 tk9 F9 N9; (try dsimp only); (try k_fold))))
local macro_rules | `(tactic| walk_at "call ref") => `(tactic| (k_here; (with_reducible show wpAny _ _ (PySem.call (Value.ref 192) [Value.int (latY _) _, Value.int (latM _) _, Value.int (latD _) _]) _ _ _); k_dflt (refine' use (c_tojd_lat _ _ _ _ ?hd) ?k1 ?k2 ?k3 ?k4 ?k5 ?kK ?kd ?ku ?_; (case k1 => k_asm); (case k2 => k_asm); (case k3 => k_asm); (case k4 => k_asm); (case k5 => k_asm); (case kK => first | exact rfl | assumption); (case kd => first | ((with_reducible refine' room_dp ?rdh ?rdk); (case rdh => with_reducible assumption); (case rdk => decide)) | ktr_room); (case ku => first | ((with_reducible refine' room_un ?ruh ?ruk); (case ruh => with_reducible assumption); (case ruk => decide)) | ktr_units); (case hd => (law_clear; first | omega | ((try simp only [decide_eq_true_eq, decide_eq_false_iff_not, gj, ij, cj, jj, aj, sj, leapS] at *); first | done | omega))); intro t9 h9 tk9 F9 N9; (try dsimp only); (try k_fold))))
local macro_rules | `(tactic| walk_at "call ref") => `(tactic| (k_here; (with_reducible show wpAny _ _ (PySem.call (Value.ref 237) [Value.float (H (2 * _ - 1)) _, Value.none]) _ _ _); k_dflt (refine' use (c_fromjd_arm _ _ ?hd) ?k1 ?k2 ?k3 ?k4 ?k5 ?kK ?kd ?ku ?_; (case k1 => k_asm); (case k2 => k_asm); (case k3 => k_asm); (case k4 => k_asm); (case k5 => k_asm); (case kK => first | exact rfl | assumption); (case kd => first | ((with_reducible refine' room_dp ?rdh ?rdk); (case rdh => with_reducible assumption); (case rdk => decide)) | ktr_room); (case ku => first | ((with_reducible refine' room_un ?ruh ?ruk); (case ruh => with_reducible assumption); (case ruk => decide)) | ktr_units); (case hd => (law_clear; first | omega | ((try simp only [decide_eq_true_eq, decide_eq_false_iff_not, gj, ij, cj, jj, aj, sj, leapS] at *); first | done | omega))); intro D9 t9 u9 v9 h9 tk9 F9 N9; (try dsimp only); (try k_fold))))
local macro_rules | `(tactic| walk_at "call ref") => `(tactic| (k_here; (with_reducible show wpAny _ _ (PySem.call (Value.ref 237) [Value.float (H (2 * _ - 1)) _, Value.str (Str.ofString "sarkawag") _]) _ _ _); k_dflt (refine' use (c_fromjd_sar _ _ _ ?hd) ?k1 ?k2 ?k3 ?k4 ?k5 ?kK ?kd ?ku ?_; (case k1 => k_asm); (case k2 => k_asm); (case k3 => k_asm); (case k4 => k_asm); (case k5 => k_asm); (case kK => first | exact rfl | assumption); (case kd => first | ((with_reducible refine' room_dp ?rdh ?rdk); (case rdh => with_reducible assumption); (case rdk => decide)) | ktr_room); (case ku => first | ((with_reducible refine' room_un ?ruh ?ruk); (case ruh => with_reducible assumption); (case ruk => decide)) | ktr_units); (case hd => (law_clear; first | omega | ((try simp only [decide_eq_true_eq, decide_eq_false_iff_not, gj, ij, cj, jj, aj, sj, leapS] at *); first | done | omega))); intro D9 t9 u9 v9 h9 tk9 F9 N9; (try dsimp only); (try k_fold))))
local macro_rules | `(tactic| walk_at "eval Name") => `(tactic| (k_here; k_dflt (first | (name_kind "local"; refine' nameX_L ?F ?v ?_ ?a ?b ?c; (case F => k_asm); (case a => kernel_rfl); (case b => kernel_rfl); (case c => kernel_rfl); (case v => first | (refine' look_of ?gg ?ge; (case gg => (repeat (first | (with_reducible exact guess_hit_l) | (with_reducible apply guess_miss_l) | (with_reducible exact guess_hit_if) | ((with_reducible show Guess (@ite _ _ _ _ _) _); (with_reducible apply guess_miss_if))))); (case ge => kernel_rfl)) | exact rfl)) | (name_kind "globalImplicit"; refine' nameX_K ?F ?X ?T ?e ?_ ?a ?b ?c; (case F => k_asm); (case X => k_asm); (case T => k_asm); (case e => with_reducible (first | exact gn_from_jd_armenian _ | exact gn_to_jd_julian _)); (case a => kernel_rfl); (case b => kernel_rfl); (case c => kernel_rfl)))))
set_option maxRecDepth 100000 in
set_option maxHeartbeats 8000000 in
theorem c_fromjul_arm (day : Int) (t u v : Tok) (hd : 1922868 ≤ day ∧ day < 10000000000) :
    Claim 253 [.int (latY day) t, .int (latM day) u, .int (latD day) v, .none] 6 (RetT3 (armY day) (armM day) (armD day)) := by
  refine gate_out ?_
  simp (disch := (k_dflt (
  intro prog w p loose mean mg mb dp un gd cn cs a ccd cl outer A₀ base h₀ L mm news s Q E B F X N T hk hdp hun hret
  (refine wpAny_call ?_; k_dflt (refine' code_def ?k1 ?k2 ?k3 ?k4 ?k5 ?kA ?kF ?kK ?k6 ?k7 ?k8 ?k9 ?kB ?_ ?c2 ?c3 ?c4 ?c5; (case kA => exact rfl); (case kF => exact rfl); (case kK => assumption); (case k1 => k_asm); (case k2 => k_asm); (case k3 => k_asm); (case k4 => k_asm); (case k5 => k_asm); (case k6 => k_is); (case k7 => k_is); (case k8 => ktr_room); (case k9 => exact binds_K (by k_in) rfl (by k_is) rfl rfl rfl); (case c5 => decide); (case kB => exact locs rfl); (case c2 => exact rfl); (case c3 => exact rfl); (case c4 => exact rfl); k_whole; intro g' L' h' FG' F' N' B' X' T'; (try dsimp only); (try k_lift B'); (try k_fold)); (try ((rename Fr _ _ _ _ => F8); (first | (have F9 := Fr_as F8 (m' := fun y9 => List.lookup y9 [(Str.ofString "method", (.none : Value)), (Str.ofString "day", (.int (latD day) v : Value)), (Str.ofString "month", (.int (latM day) u : Value)), (Str.ofString "year", (.int (latY day) t : Value))]) rfl) | (have F9 := Fr_as F8 (m' := fun y9 => List.lookup y9 [(Str.ofString "year", (.int (latY day) t : Value)), (Str.ofString "month", (.int (latM day) u : Value)), (Str.ofString "day", (.int (latD day) v : Value)), (Str.ofString "method", (.none : Value))]) rfl)); clear F8));  k_steps; all_goals (refine' ret_T3 hret ?e1 ?e2 ?e3 ?F ?NM ?hs; (case F => k_asm); (case NM => (refine' ⟨?n1, ?n2⟩; (case n1 => k_asm); (case n2 => k_mem))); (case hs => (first | (intro p9 hp9; (repeat (with_reducible refine List.mem_cons_of_mem _ ?_)); exact hp9) | kcj_all)); (case e1 => (with_reducible exact rfl)); (case e2 => (with_reducible exact rfl)); (case e3 => (with_reducible exact rfl))))))) only [↓gate_true]
end
section
local macro_rules | `(tactic| walk_at "call ref") => `(tactic| (k_here; (with_reducible show wpAny _ _ (PySem.call (Value.ref 71) [Value.float (H (2 * _ - 1)) _]) _ _ _); k_dflt (refine' use (c_fromjd_greg _ _ ?hd) ?k1 ?k2 ?k3 ?k4 ?k5 ?kK ?kd ?ku ?_; (case k1 => k_asm); (case k2 => k_asm); (case k3 => k_asm); (case k4 => k_asm); (case k5 => k_asm); (case kK => first | exact rfl | assumption); (case kd => first | ((with_reducible refine' room_dp ?rdh ?rdk); (case rdh => with_reducible assumption); (case rdk => decide)) | ktr_room); (case ku => first | ((with_reducible refine' room_un ?ruh ?ruk); (case ruh => with_reducible assumption); (case ruk => decide)) | ktr_units); (case hd => (law_clear; first | omega | ((try simp only [decide_eq_true_eq, decide_eq_false_iff_not, gj, ij, cj, jj, aj, sj, leapS] at *); first | done | omega))); intro D9 t9 u9 v9 h9 tk9 F9 N9; (try dsimp only); (try k_fold))))
local macro_rules | `(tactic| walk_at "call ref") => `(tactic| (k_here; (with_reducible show wpAny _ _ (PySem.call (Value.ref 229) [Value.int _ _, Value.int _ _, Value.int _ _, Value.none]) _ _ _); k_dflt (refine' use (c_tojd_n _ _ _ _ _ _ ?hy ?hm ?hd ?hl) ?k1 ?k2 ?k3 ?k4 ?k5 ?kK ?kd ?ku ?_; (case k1 => k_asm); (case k2 => k_asm); (case k3 => k_asm); (case k4 => k_asm); (case k5 => k_asm); (case kK => first | exact rfl | assumption); (case kd => first | ((with_reducible refine' room_dp ?rdh ?rdk); (case rdh => with_reducible assumption); (case rdk => decide)) | ktr_room); (case ku => first | ((with_reducible refine' room_un ?ruh ?ruk); (case ruh => with_reducible assumption); (case ruk => decide)) | ktr_units); (case hy => (law_clear; first | omega | ((try simp only [decide_eq_true_eq, decide_eq_false_iff_not, gj, ij, cj, jj, aj, sj, leapS] at *); first | done | omega))); (case hm => (law_clear; first | omega | ((try simp only [decide_eq_true_eq, decide_eq_false_iff_not, gj, ij, cj, jj, aj, sj, leapS] at *); first | done | omega))); (case hd => (law_clear; first | omega | ((try simp only [decide_eq_true_eq, decide_eq_false_iff_not, gj, ij, cj, jj, aj, sj, leapS] at *); first | done | omega))); (case hl => (law_clear; first | omega | ((try simp only [decide_eq_true_eq, decide_eq_false_iff_not, gj, ij, cj, jj, aj, sj, leapS] at *); first | done | omega))); intro t9 h9 tk9 F9 N9; (try dsimp only); (try k_fold))))
local macro_rules | `(tactic| walk_at "call ref") => `(tactic| (k_here; (with_reducible show wpAny _ _ (PySem.call (Value.ref 229) [Value.int _ _, Value.int _ _, Value.int _ _, Value.str (Str.ofString "sarkawag") _]) _ _ _); k_dflt (refine' use (c_tojd_s _ _ _ _ _ _ _ ?hy ?hm ?hd ?hl) ?k1 ?k2 ?k3 ?k4 ?k5 ?kK ?kd ?ku ?_; (case k1 => k_asm); (case k2 => k_asm); (case k3 => k_asm); (case k4 => k_asm); (case k5 => k_asm); (case kK => first | exact rfl | assumption); (case kd => first | ((with_reducible refine' room_dp ?rdh ?rdk); (case rdh => with_reducible assumption); (case rdk => decide)) | ktr_room); (case ku => first | ((with_reducible refine' room_un ?ruh ?ruk); (case ruh => with_reducible assumption); (case ruk => decide)) | ktr_units); (case hy => (law_clear; first | omega | ((try simp only [decide_eq_true_eq, decide_eq_false_iff_not, gj, ij, cj, jj, aj, sj, leapS] at *); first | done | omega))); (case hm => (law_clear; first | omega | ((try simp only [decide_eq_true_eq, decide_eq_false_iff_not, gj, ij, cj, jj, aj, sj, leapS] at *); first | done | omega))); (case hd => (law_clear; first | omega | ((try simp only [decide_eq_true_eq, decide_eq_false_iff_not, gj, ij, cj, jj, aj, sj, leapS] at *); first | done | omega))); (case hl => (law_clear; first | omega | ((try simp only [decide_eq_true_eq, decide_eq_false_iff_not, gj, ij, cj, jj, aj, sj, leapS] at *); first | done | omega))); intro t9 h9 tk9 F9 N9; (try dsimp only); (try k_fold))))
local macro_rules | `(tactic| walk_at "call ref") => `(tactic| (k_here; (with_reducible show wpAny _ _ (PySem.call (Value.ref 229) [Value.int (armY _) _, Value.int (armM _) _, Value.int (armD _) _, Value.none]) _ _ _); k_dflt (refine' use (c_tojd_arm_at _ _ _ _ ?hd) ?k1 ?k2 ?k3 ?k4 ?k5 ?kK ?kd ?ku ?_; (case k1 => k_asm); (case k2 => k_asm); (case k3 => k_asm); (case k4 => k_asm); (case k5 => k_asm); (case kK => first | exact rfl | assumption); (case kd => first | ((with_reducible refine' room_dp ?rdh ?rdk); (case rdh => with_reducible assumption); (case rdk => decide)) | ktr_room); (case ku => first | ((with_reducible refine' room_un ?ruh ?ruk); (case ruh => with_reducible assumption); (case ruk => decide)) | ktr_units); (case hd => (law_clear; first | omega | ((try simp only [decide_eq_true_eq, decide_eq_false_iff_not, gj, ij, cj, jj, aj, sj, leapS] at *); first | done | omega))); intro t9 h9 tk9 F9 N9; (try dsimp only); (try k_fold))))
local macro_rules | `(tactic| walk_at "call ref") => `(tactic| (k_here; (with_reducible show wpAny _ _ (PySem.call (Value.ref 229) [Value.int (sarY _) _, Value.int (sarM _) _, Value.int (sarD _) _, Value.str (Str.ofString "sarkawag") _]) _ _ _); k_dflt (refine' use (c_tojd_sar_at _ _ _ _ _ ?hd) ?k1 ?k2 ?k3 ?k4 ?k5 ?kK ?kd ?ku ?_; (case k1 => k_asm); (case k2 => k_asm); (case k3 => k_asm); (case k4 => k_asm); (case k5 => k_asm); (case kK => first | exact rfl | assumption); (case kd => first | ((with_reducible refine' room_dp ?rdh ?rdk); (case rdh => with_reducible assumption); (case rdk => decide)) | ktr_room); (case ku => first | ((with_reducible refine' room_un ?ruh ?ruk); (case ruh => with_reducible assumption); (case ruk => decide)) | ktr_units); (case hd => (law_clear; first | omega | ((try simp only [decide_eq_true_eq, decide_eq_false_iff_not, gj, ij, cj, jj, aj, sj, leapS] at *); first | done | omega))); intro t9 h9 tk9 F9 N9; (try dsimp only); (try k_fold))))
local macro_rules | `(tactic| walk_at "eval Name") => `(tactic| (k_here; k_dflt (first | (name_kind "local"; refine' nameX_L ?F ?v ?_ ?a ?b ?c; (case F => k_asm); (case a => kernel_rfl); (case b => kernel_rfl); (case c => kernel_rfl); (case v => first | (refine' look_of ?gg ?ge; (case gg => (repeat (first | (with_reducible exact guess_hit_l) | (with_reducible apply guess_miss_l) | (with_reducible exact guess_hit_if) | ((with_reducible show Guess (@ite _ _ _ _ _) _); (with_reducible apply guess_miss_if))))); (case ge => kernel_rfl)) | exact rfl)) | (name_kind "globalImplicit"; refine' nameX_K ?F ?X ?T ?e ?_ ?a ?b ?c; (case F => k_asm); (case X => k_asm); (case T => k_asm); (case e => with_reducible (first | exact gn_from_jd_gregorian _ | exact gn_to_jd_armenian _)); (case a => kernel_rfl); (case b => kernel_rfl); (case c => kernel_rfl)))))
set_option maxRecDepth 100000 in
set_option maxHeartbeats 8000000 in
theorem c_togreg_arm (day : Int) (t u v : Tok) (hd : 1922868 ≤ day ∧ day < 10000000000) :
    Claim 261 [.int (armY day) t, .int (armM day) u, .int (armD day) v, .none] 6 (RetT3 (romY day) (romM day) (romD day)) := by
  refine gate_out ?_
  simp (disch := (k_dflt (
  intro prog w p loose mean mg mb dp un gd cn cs a ccd cl outer A₀ base h₀ L mm news s Q E B F X N T hk hdp hun hret
  (refine wpAny_call ?_; k_dflt (refine' code_def ?k1 ?k2 ?k3 ?k4 ?k5 ?kA ?kF ?kK ?k6 ?k7 ?k8 ?k9 ?kB ?_ ?c2 ?c3 ?c4 ?c5; (case kA => exact rfl); (case kF => exact rfl); (case kK => assumption); (case k1 => k_asm); (case k2 => k_asm); (case k3 => k_asm); (case k4 => k_asm); (case k5 => k_asm); (case k6 => k_is); (case k7 => k_is); (case k8 => ktr_room); (case k9 => exact binds_K (by k_in) rfl (by k_is) rfl rfl rfl); (case c5 => decide); (case kB => exact locs rfl); (case c2 => exact rfl); (case c3 => exact rfl); (case c4 => exact rfl); k_whole; intro g' L' h' FG' F' N' B' X' T'; (try dsimp only); (try k_lift B'); (try k_fold)); (try ((rename Fr _ _ _ _ => F8); (first | (have F9 := Fr_as F8 (m' := fun y9 => List.lookup y9 [(Str.ofString "method", (.none : Value)), (Str.ofString "day", (.int (armD day) v : Value)), (Str.ofString "month", (.int (armM day) u : Value)), (Str.ofString "year", (.int (armY day) t : Value))]) rfl) | (have F9 := Fr_as F8 (m' := fun y9 => List.lookup y9 [(Str.ofString "year", (.int (armY day) t : Value)), (Str.ofString "month", (.int (armM day) u : Value)), (Str.ofString "day", (.int (armD day) v : Value)), (Str.ofString "method", (.none : Value))]) rfl)); clear F8));  k_steps; all_goals (refine' ret_T3 hret ?e1 ?e2 ?e3 ?F ?NM ?hs; (case F => k_asm); (case NM => (refine' ⟨?n1, ?n2⟩; (case n1 => k_asm); (case n2 => k_mem))); (case hs => (first | (intro p9 hp9; (repeat (with_reducible refine List.mem_cons_of_mem _ ?_)); exact hp9) | kcj_all)); (case e1 => (with_reducible exact rfl)); (case e2 => (with_reducible exact rfl)); (case e3 => (with_reducible exact rfl))))))) only [↓gate_true]
end
section
local macro_rules | `(tactic| walk_at "call ref") => `(tactic| (k_here; (with_reducible show wpAny _ _ (PySem.call (Value.ref 64) [Value.int _ _, Value.int _ _, Value.int _ _]) _ _ _); k_dflt (refine' use (c_tojd_greg _ _ _ _ _ _ ?hy ?hm ?h1 ?h2 ?h3 ?h4 ?h5) ?k1 ?k2 ?k3 ?k4 ?k5 ?kK ?kd ?ku ?_; (case k1 => k_asm); (case k2 => k_asm); (case k3 => k_asm); (case k4 => k_asm); (case k5 => k_asm); (case kK => first | exact rfl | assumption); (case kd => first | ((with_reducible refine' room_dp ?rdh ?rdk); (case rdh => with_reducible assumption); (case rdk => decide)) | ktr_room); (case ku => first | ((with_reducible refine' room_un ?ruh ?ruk); (case ruh => with_reducible assumption); (case ruk => decide)) | ktr_units); (case hy => (law_clear; first | omega | ((try simp only [decide_eq_true_eq, decide_eq_false_iff_not, gj, ij, cj, jj, aj, sj, leapS] at *); first | done | omega))); (case hm => (law_clear; first | omega | ((try simp only [decide_eq_true_eq, decide_eq_false_iff_not, gj, ij, cj, jj, aj, sj, leapS] at *); first | done | omega))); (case h1 => (law_clear; first | omega | ((try simp only [decide_eq_true_eq, decide_eq_false_iff_not, gj, ij, cj, jj, aj, sj, leapS] at *); first | done | omega))); (case h2 => (law_clear; first | omega | ((try simp only [decide_eq_true_eq, decide_eq_false_iff_not, gj, ij, cj, jj, aj, sj, leapS] at *); first | done | omega))); (case h3 => (law_clear; first | omega | ((try simp only [decide_eq_true_eq, decide_eq_false_iff_not, gj, ij, cj, jj, aj, sj, leapS] at *); first | done | omega))); (case h4 => (law_clear; first | omega | ((try simp only [decide_eq_true_eq, decide_eq_false_iff_not, gj, ij, cj, jj, aj, sj, leapS] at *); first | done | omega))); (case h5 => (law_clear; first | omega | ((try simp only [decide_eq_true_eq, decide_eq_false_iff_not, gj, ij, cj, jj, aj, sj, leapS] at *); first | done | omega))); intro t9 h9 tk9 F9 N9; (try dsimp only); (try k_fold))))
local macro_rules | `(tactic| walk_at "call ref") => `(tactic| (k_here; (with_reducible show wpAny _ _ (PySem.call (Value.ref 64) [Value.int (romY _) _, Value.int (romM _) _, Value.int (romD _) _]) _ _ _); k_dflt (refine' use (c_tojd_rom _ _ _ _ ?hd) ?k1 ?k2 ?k3 ?k4 ?k5 ?kK ?kd ?ku ?_; (case k1 => k_asm); (case k2 => k_asm); (case k3 => k_asm); (case k4 => k_asm); (case k5 => k_asm); (case kK => first | exact rfl | assumption); (case kd => first | ((with_reducible refine' room_dp ?rdh ?rdk); (case rdh => with_reducible assumption); (case rdk => decide)) | ktr_room); (case ku => first | ((with_reducible refine' room_un ?ruh ?ruk); (case ruh => with_reducible assumption); (case ruk => decide)) | ktr_units); (case hd => (law_clear; first | omega | ((try simp only [decide_eq_true_eq, decide_eq_false_iff_not, gj, ij, cj, jj, aj, sj, leapS] at *); first | done | omega))); intro t9 h9 tk9 F9 N9; (try dsimp only); (try k_fold))))
local macro_rules | `(tactic| walk_at "call ref") => `(tactic| (k_here; (with_reducible show wpAny _ _ (PySem.call (Value.ref 237) [Value.float (H (2 * _ - 1)) _, Value.none]) _ _ _); k_dflt (refine' use (c_fromjd_arm _ _ ?hd) ?k1 ?k2 ?k3 ?k4 ?k5 ?kK ?kd ?ku ?_; (case k1 => k_asm); (case k2 => k_asm); (case k3 => k_asm); (case k4 => k_asm); (case k5 => k_asm); (case kK => first | exact rfl | assumption); (case kd => first | ((with_reducible refine' room_dp ?rdh ?rdk); (case rdh => with_reducible assumption); (case rdk => decide)) | ktr_room); (case ku => first | ((with_reducible refine' room_un ?ruh ?ruk); (case ruh => with_reducible assumption); (case ruk => decide)) | ktr_units); (case hd => (law_clear; first | omega | ((try simp only [decide_eq_true_eq, decide_eq_false_iff_not, gj, ij, cj, jj, aj, sj, leapS] at *); first | done | omega))); intro D9 t9 u9 v9 h9 tk9 F9 N9; (try dsimp only); (try k_fold))))
local macro_rules | `(tactic| walk_at "call ref") => `(tactic| (k_here; (with_reducible show wpAny _ _ (PySem.call (Value.ref 237) [Value.float (H (2 * _ - 1)) _, Value.str (Str.ofString "sarkawag") _]) _ _ _); k_dflt (refine' use (c_fromjd_sar _ _ _ ?hd) ?k1 ?k2 ?k3 ?k4 ?k5 ?kK ?kd ?ku ?_; (case k1 => k_asm); (case k2 => k_asm); (case k3 => k_asm); (case k4 => k_asm); (case k5 => k_asm); (case kK => first | exact rfl | assumption); (case kd => first | ((with_reducible refine' room_dp ?rdh ?rdk); (case rdh => with_reducible assumption); (case rdk => decide)) | ktr_room); (case ku => first | ((with_reducible refine' room_un ?ruh ?ruk); (case ruh => with_reducible assumption); (case ruk => decide)) | ktr_units); (case hd => (law_clear; first | omega | ((try simp only [decide_eq_true_eq, decide_eq_false_iff_not, gj, ij, cj, jj, aj, sj, leapS] at *); first | done | omega))); intro D9 t9 u9 v9 h9 tk9 F9 N9; (try dsimp only); (try k_fold))))
local macro_rules | `(tactic| walk_at "eval Name") => `(tactic| (k_here; k_dflt (first | (name_kind "local"; refine' nameX_L ?F ?v ?_ ?a ?b ?c; (case F => k_asm); (case a => kernel_rfl); (case b => kernel_rfl); (case c => kernel_rfl); (case v => first | (refine' look_of ?gg ?ge; (case gg => (repeat (first | (with_reducible exact guess_hit_l) | (with_reducible apply guess_miss_l) | (with_reducible exact guess_hit_if) | ((with_reducible show Guess (@ite _ _ _ _ _) _); (with_reducible apply guess_miss_if))))); (case ge => kernel_rfl)) | exact rfl)) | (name_kind "globalImplicit"; refine' nameX_K ?F ?X ?T ?e ?_ ?a ?b ?c; (case F => k_asm); (case X => k_asm); (case T => k_asm); (case e => with_reducible (first | exact gn_from_jd_armenian _ | exact gn_to_jd_gregorian _)); (case a => kernel_rfl); (case b => kernel_rfl); (case c => kernel_rfl)))))
set_option maxRecDepth 100000 in
set_option maxHeartbeats 8000000 in
theorem c_fromgreg_arm (day : Int) (t u v : Tok) (hd : 1922868 ≤ day ∧ day < 10000000000) :
    Claim 269 [.int (romY day) t, .int (romM day) u, .int (romD day) v, .none] 6 (RetT3 (armY day) (armM day) (armD day)) := by
  refine gate_out ?_
  simp (disch := (k_dflt (
  intro prog w p loose mean mg mb dp un gd cn cs a ccd cl outer A₀ base h₀ L mm news s Q E B F X N T hk hdp hun hret
  (refine wpAny_call ?_; k_dflt (refine' code_def ?k1 ?k2 ?k3 ?k4 ?k5 ?kA ?kF ?kK ?k6 ?k7 ?k8 ?k9 ?kB ?_ ?c2 ?c3 ?c4 ?c5; (case kA => exact rfl); (case kF => exact rfl); (case kK => assumption); (case k1 => k_asm); (case k2 => k_asm); (case k3 => k_asm); (case k4 => k_asm); (case k5 => k_asm); (case k6 => k_is); (case k7 => k_is); (case k8 => ktr_room); (case k9 => exact binds_K (by k_in) rfl (by k_is) rfl rfl rfl); (case c5 => decide); (case kB => exact locs rfl); (case c2 => exact rfl); (case c3 => exact rfl); (case c4 => exact rfl); k_whole; intro g' L' h' FG' F' N' B' X' T'; (try dsimp only); (try k_lift B'); (try k_fold)); (try ((rename Fr _ _ _ _ => F8); (first | (have F9 := Fr_as F8 (m' := fun y9 => List.lookup y9 [(Str.ofString "method", (.none : Value)), (Str.ofString "day", (.int (romD day) v : Value)), (Str.ofString "month", (.int (romM day) u : Value)), (Str.ofString "year", (.int (romY day) t : Value))]) rfl) | (have F9 := Fr_as F8 (m' := fun y9 => List.lookup y9 [(Str.ofString "year", (.int (romY day) t : Value)), (Str.ofString "month", (.int (romM day) u : Value)), (Str.ofString "day", (.int (romD day) v : Value)), (Str.ofString "method", (.none : Value))]) rfl)); clear F8));  k_steps; all_goals (refine' ret_T3 hret ?e1 ?e2 ?e3 ?F ?NM ?hs; (case F => k_asm); (case NM => (refine' ⟨?n1, ?n2⟩; (case n1 => k_asm); (case n2 => k_mem))); (case hs => (first | (intro p9 hp9; (repeat (with_reducible refine List.mem_cons_of_mem _ ?_)); exact hp9) | kcj_all)); (case e1 => (with_reducible exact rfl)); (case e2 => (with_reducible exact rfl)); (case e3 => (with_reducible exact rfl))))))) only [↓gate_true]
end
section
local macro_rules | `(tactic| walk_at "call ref") => `(tactic| (k_here; (with_reducible show wpAny _ _ (PySem.call (Value.ref 185) [Value.float (H (2 * _ - 1)) _]) _ _ _); k_dflt (refine' use (c_fromjd_jul _ _ ?hd) ?k1 ?k2 ?k3 ?k4 ?k5 ?kK ?kd ?ku ?_; (case k1 => k_asm); (case k2 => k_asm); (case k3 => k_asm); (case k4 => k_asm); (case k5 => k_asm); (case kK => first | exact rfl | assumption); (case kd => first | ((with_reducible refine' room_dp ?rdh ?rdk); (case rdh => with_reducible assumption); (case rdk => decide)) | ktr_room); (case ku => first | ((with_reducible refine' room_un ?ruh ?ruk); (case ruh => with_reducible assumption); (case ruk => decide)) | ktr_units); (case hd => (law_clear; first | omega | ((try simp only [decide_eq_true_eq, decide_eq_false_iff_not, gj, ij, cj, jj, aj, sj, leapS] at *); first | done | omega))); intro D9 t9 u9 v9 h9 tk9 F9 N9; (try dsimp only); (try k_fold))))
local macro_rules | `(tactic| walk_at "call ref") => `(tactic| (k_here; (with_reducible show wpAny _ _ (PySem.call (Value.ref 229) [Value.int _ _, Value.int _ _, Value.int _ _, Value.none]) _ _ _); k_dflt (refine' use (c_tojd_n _ _ _ _ _ _ ?hy ?hm ?hd ?hl) ?k1 ?k2 ?k3 ?k4 ?k5 ?kK ?kd ?ku ?_; (case k1 => k_asm); (case k2 => k_asm); (case k3 => k_asm); (case k4 => k_asm); (case k5 => k_asm); (case kK => first | exact rfl | assumption); (case kd => first | ((with_reducible refine' room_dp ?rdh ?rdk); (case rdh => with_reducible assumption); (case rdk => decide)) | ktr_room); (case ku => first | ((with_reducible refine' room_un ?ruh ?ruk); (case ruh => with_reducible assumption); (case ruk => decide)) | ktr_units); (case hy => (law_clear; first | omega | ((try simp only [decide_eq_true_eq, decide_eq_false_iff_not, gj, ij, cj, jj, aj, sj, leapS] at *); first | done | omega))); (case hm => (law_clear; first | omega | ((try simp only [decide_eq_true_eq, decide_eq_false_iff_not, gj, ij, cj, jj, aj, sj, leapS] at *); first | done | omega))); (case hd => (law_clear; first | omega | ((try simp only [decide_eq_true_eq, decide_eq_false_iff_not, gj, ij, cj, jj, aj, sj, leapS] at *); first | done | omega))); (case hl => (law_clear; first | omega | ((try simp only [decide_eq_true_eq, decide_eq_false_iff_not, gj, ij, cj, jj, aj, sj, leapS] at *); first | done | omega))); intro t9 h9 tk9 F9 N9; (try dsimp only); (try k_fold))))
local macro_rules | `(tactic| walk_at "call ref") => `(tactic| (k_here; (with_reducible show wpAny _ _ (PySem.call (Value.ref 229) [Value.int _ _, Value.int _ _, Value.int _ _, Value.str (Str.ofString "sarkawag") _]) _ _ _); k_dflt (refine' use (c_tojd_s _ _ _ _ _ _ _ ?hy ?hm ?hd ?hl) ?k1 ?k2 ?k3 ?k4 ?k5 ?kK ?kd ?ku ?_; (case k1 => k_asm); (case k2 => k_asm); (case k3 => k_asm); (case k4 => k_asm); (case k5 => k_asm); (case kK => first | exact rfl | assumption); (case kd => first | ((with_reducible refine' room_dp ?rdh ?rdk); (case rdh => with_reducible assumption); (case rdk => decide)) | ktr_room); (case ku => first | ((with_reducible refine' room_un ?ruh ?ruk); (case ruh => with_reducible assumption); (case ruk => decide)) | ktr_units); (case hy => (law_clear; first | omega | ((try simp only [decide_eq_true_eq, decide_eq_false_iff_not, gj, ij, cj, jj, aj, sj, leapS] at *); first | done | omega))); (case hm => (law_clear; first | omega | ((try simp only [decide_eq_true_eq, decide_eq_false_iff_not, gj, ij, cj, jj, aj, sj, leapS] at *); first | done | omega))); (case hd => (law_clear; first | omega | ((try simp only [decide_eq_true_eq, decide_eq_false_iff_not, gj, ij, cj, jj, aj, sj, leapS] at *); first | done | omega))); (case hl => (law_clear; first | omega | ((try simp only [decide_eq_true_eq, decide_eq_false_iff_not, gj, ij, cj, jj, aj, sj, leapS] at *); first | done | omega))); intro t9 h9 tk9 F9 N9; (try dsimp only); (try k_fold))))
local macro_rules | `(tactic| walk_at "call ref") => `(tactic| (k_here; (with_reducible show wpAny _ _ (PySem.call (Value.ref 229) [Value.int (armY _) _, Value.int (armM _) _, Value.int (armD _) _, Value.none]) _ _ _); k_dflt (refine' use (c_tojd_arm_at _ _ _ _ ?hd) ?k1 ?k2 ?k3 ?k4 ?k5 ?kK ?kd ?ku ?_; (case k1 => k_asm); (case k2 => k_asm); (case k3 => k_asm); (case k4 => k_asm); (case k5 => k_asm); (case kK => first | exact rfl | assumption); (case kd => first | ((with_reducible refine' room_dp ?rdh ?rdk); (case rdh => with_reducible assumption); (case rdk => decide)) | ktr_room); (case ku => first | ((with_reducible refine' room_un ?ruh ?ruk); (case ruh => with_reducible assumption); (case ruk => decide)) | ktr_units); (case hd => (law_clear; first | omega | ((try simp only [decide_eq_true_eq, decide_eq_false_iff_not, gj, ij, cj, jj, aj, sj, leapS] at *); first | done | omega))); intro t9 h9 tk9 F9 N9; (try dsimp only); (try k_fold))))
local macro_rules | `(tactic| walk_at "call ref") => `(tactic| (k_here; (with_reducible show wpAny _ _ (PySem.call (Value.ref 229) [Value.int (sarY _) _, Value.int (sarM _) _, Value.int (sarD _) _, Value.str (Str.ofString "sarkawag") _]) _ _ _); k_dflt (refine' use (c_tojd_sar_at _ _ _ _ _ ?hd) ?k1 ?k2 ?k3 ?k4 ?k5 ?kK ?kd ?ku ?_; (case k1 => k_asm); (case k2 => k_asm); (case k3 => k_asm); (case k4 => k_asm); (case k5 => k_asm); (case kK => first | exact rfl | assumption); (case kd => first | ((with_reducible refine' room_dp ?rdh ?rdk); (case rdh => with_reducible assumption); (case rdk => decide)) | ktr_room); (case ku => first | ((with_reducible refine' room_un ?ruh ?ruk); (case ruh => with_reducible assumption); (case ruk => decide)) | ktr_units); (case hd => (law_clear; first | omega | ((try simp only [decide_eq_true_eq, decide_eq_false_iff_not, gj, ij, cj, jj, aj, sj, leapS] at *); first | done | omega))); intro t9 h9 tk9 F9 N9; (try dsimp only); (try k_fold))))
local macro_rules | `(tactic| walk_at "eval Name") => `(tactic| (k_here; k_dflt (first | (name_kind "local"; refine' nameX_L ?F ?v ?_ ?a ?b ?c; (case F => k_asm); (case a => kernel_rfl); (case b => kernel_rfl); (case c => kernel_rfl); (case v => first | (refine' look_of ?gg ?ge; (case gg => (repeat (first | (with_reducible exact guess_hit_l) | (with_reducible apply guess_miss_l) | (with_reducible exact guess_hit_if) | ((with_reducible show Guess (@ite _ _ _ _ _) _); (with_reducible apply guess_miss_if))))); (case ge => kernel_rfl)) | exact rfl)) | (name_kind "globalImplicit"; refine' nameX_K ?F ?X ?T ?e ?_ ?a ?b ?c; (case F => k_asm); (case X => k_asm); (case T => k_asm); (case e => with_reducible (first | exact gn_from_jd_julian _ | exact gn_to_jd_armenian _)); (case a => kernel_rfl); (case b => kernel_rfl); (case c => kernel_rfl)))))
set_option maxRecDepth 100000 in
set_option maxHeartbeats 8000000 in
theorem c_tojul_sar (day : Int) (t u v z : Tok) (hd : 2117212 ≤ day ∧ day < 10000000000) :
    Claim 245 [.int (sarY day) t, .int (sarM day) u, .int (sarD day) v, .str (Str.ofString "sarkawag") z] 6 (RetT3 (latY day) (latM day) (latD day)) := by
  refine gate_out ?_
  simp (disch := (k_dflt (
  intro prog w p loose mean mg mb dp un gd cn cs a ccd cl outer A₀ base h₀ L mm news s Q E B F X N T hk hdp hun hret
  (refine wpAny_call ?_; k_dflt (refine' code_def ?k1 ?k2 ?k3 ?k4 ?k5 ?kA ?kF ?kK ?k6 ?k7 ?k8 ?k9 ?kB ?_ ?c2 ?c3 ?c4 ?c5; (case kA => exact rfl); (case kF => exact rfl); (case kK => assumption); (case k1 => k_asm); (case k2 => k_asm); (case k3 => k_asm); (case k4 => k_asm); (case k5 => k_asm); (case k6 => k_is); (case k7 => k_is); (case k8 => ktr_room); (case k9 => exact binds_K (by k_in) rfl (by k_is) rfl rfl rfl); (case c5 => decide); (case kB => exact locs rfl); (case c2 => exact rfl); (case c3 => exact rfl); (case c4 => exact rfl); k_whole; intro g' L' h' FG' F' N' B' X' T'; (try dsimp only); (try k_lift B'); (try k_fold)); (try ((rename Fr _ _ _ _ => F8); (first | (have F9 := Fr_as F8 (m' := fun y9 => List.lookup y9 [(Str.ofString "method", (.str (Str.ofString "sarkawag") z : Value)), (Str.ofString "day", (.int (sarD day) v : Value)), (Str.ofString "month", (.int (sarM day) u : Value)), (Str.ofString "year", (.int (sarY day) t : Value))]) rfl) | (have F9 := Fr_as F8 (m' := fun y9 => List.lookup y9 [(Str.ofString "year", (.int (sarY day) t : Value)), (Str.ofString "month", (.int (sarM day) u : Value)), (Str.ofString "day", (.int (sarD day) v : Value)), (Str.ofString "method", (.str (Str.ofString "sarkawag") z : Value))]) rfl)); clear F8));  k_steps; all_goals (refine' ret_T3 hret ?e1 ?e2 ?e3 ?F ?NM ?hs; (case F => k_asm); (case NM => (refine' ⟨?n1, ?n2⟩; (case n1 => k_asm); (case n2 => k_mem))); (case hs => (first | (intro p9 hp9; (repeat (with_reducible refine List.mem_cons_of_mem _ ?_)); exact hp9) | kcj_all)); (case e1 => (with_reducible exact rfl)); (case e2 => (with_reducible exact rfl)); (case e3 => (with_reducible exact rfl))))))) only [↓gate_true]
end
section
local macro_rules | `(tactic| walk_at "call ref") => `(tactic| (k_here; (with_reducible show wpAny _ _ (PySem.call (Value.ref 192) [Value.int _ _, Value.int _ _, Value.int _ _]) _ _ _); k_dflt (refine' use (c_tojd_jul _ _ _ _ _ _ ?hy ?hm ?hd ?hl) ?k1 ?k2 ?k3 ?k4 ?k5 ?kK ?kd ?ku ?_; (case k1 => k_asm); (case k2 => k_asm); (case k3 => k_asm); (case k4 => k_asm); (case k5 => k_asm); (case kK => first | exact rfl | assumption); (case kd => first | ((with_reducible refine' room_dp ?rdh ?rdk); (case rdh => with_reducible assumption); (case rdk => decide)) | ktr_room); (case ku => first | ((with_reducible refine' room_un ?ruh ?ruk); (case ruh => with_reducible assumption); (case ruk => decide)) | ktr_units); (case hy => (law_clear; first | omega | ((try simp only [decide_eq_true_eq, decide_eq_false_iff_not, gj, ij, cj, jj, aj, sj, leapS] at *); first | done | omega))); (case hm => (law_clear; first | omega | ((try simp only [decide_eq_true_eq, decide_eq_false_iff_not, gj, ij, cj, jj, aj, sj, leapS] at *); first | done | omega))); (case hd => (law_clear; first | omega | ((try simp only [decide_eq_true_eq, decide_eq_false_iff_not, gj, ij, cj, jj, aj, sj, leapS] at *); first | done | omega))); (case hl => (law_clear; first | omega | ((try simp only [decide_eq_true_eq, decide_eq_false_iff_not, gj, ij, cj, jj, aj, sj, leapS] at *); first | done | omega))); intro t9 h9 tk9 F9 N9; (try dsimp only); (try k_fold))))
local macro_rules | `(tactic| walk_at "call ref") => `(tactic| (k_here; (with_reducible show wpAny _ _ (PySem.call (Value.ref 192) [Value.int (latY _) _, Value.int (latM _) _, Value.int (latD _) _]) _ _ _); k_dflt (refine' use (c_tojd_lat _ _ _ _ ?hd) ?k1 ?k2 ?k3 ?k4 ?k5 ?kK ?kd ?ku ?_; (case k1 => k_asm); (case k2 => k_asm); (case k3 => k_asm); (case k4 => k_asm); (case k5 => k_asm); (case kK => first | exact rfl | assumption); (case kd => first | ((with_reducible refine' room_dp ?rdh ?rdk); (case rdh => with_reducible assumption); (case rdk => decide)) | ktr_room); (case ku => first | ((with_reducible refine' room_un ?ruh ?ruk); (case ruh => with_reducible assumption); (case ruk => decide)) | ktr_units); (case hd => (law_clear; first | omega | ((try simp only [decide_eq_true_eq, decide_eq_false_iff_not, gj, ij, cj, jj, aj, sj, leapS] at *); first | done | omega))); intro t9 h9 tk9 F9 N9; (try dsimp only); (try k_fold))))
local macro_rules | `(tactic| walk_at "call ref") => `(tactic| (k_here; (with_reducible show wpAny _ _ (PySem.call (Value.ref 237) [Value.float (H (2 * _ - 1)) _, Value.none]) _ _ _); k_dflt (refine' use (c_fromjd_arm _ _ ?hd) ?k1 ?k2 ?k3 ?k4 ?k5 ?kK ?kd ?ku ?_; (case k1 => k_asm); (case k2 => k_asm); (case k3 => k_asm); (case k4 => k_asm); (case k5 => k_asm); (case kK => first | exact rfl | assumption); (case kd => first | ((with_reducible refine' room_dp ?rdh ?rdk); (case rdh => with_reducible assumption); (case rdk => decide)) | ktr_room); (case ku => first | ((with_reducible refine' room_un ?ruh ?ruk); (case ruh => with_reducible assumption); (case ruk => decide)) | ktr_units); (case hd => (law_clear; first | omega | ((try simp only [decide_eq_true_eq, decide_eq_false_iff_not, gj, ij, cj, jj, aj, sj, leapS] at *); first | done | omega))); intro D9 t9 u9 v9 h9 tk9 F9 N9; (try dsimp only); (try k_fold))))
local macro_rules | `(tactic| walk_at "call ref") => `(tactic| (k_here; (with_reducible show wpAny _ _ (PySem.call (Value.ref 237) [Value.float (H (2 * _ - 1)) _, Value.str (Str.ofString "sarkawag") _]) _ _ _); k_dflt (refine' use (c_fromjd_sar _ _ _ ?hd) ?k1 ?k2 ?k3 ?k4 ?k5 ?kK ?kd ?ku ?_; (case k1 => k_asm); (case k2 => k_asm); (case k3 => k_asm); (case k4 => k_asm); (case k5 => k_asm); (case kK => first | exact rfl | assumption); (case kd => first | ((with_reducible refine' room_dp ?rdh ?rdk); (case rdh => with_reducible assumption); (case rdk => decide)) | ktr_room); (case ku => first | ((with_reducible refine' room_un ?ruh ?ruk); (case ruh => with_reducible assumption); (case ruk => decide)) | ktr_units); (case hd => (law_clear; first | omega | ((try simp only [decide_eq_true_eq, decide_eq_false_iff_not, gj, ij, cj, jj, aj, sj, leapS] at *); first | done | omega))); intro D9 t9 u9 v9 h9 tk9 F9 N9; (try dsimp only); (try k_fold))))
local macro_rules | `(tactic| walk_at "eval Name") => `(tactic| (k_here; k_dflt (first | (name_kind "local"; refine' nameX_L ?F ?v ?_ ?a ?b ?c; (case F => k_asm); (case a => kernel_rfl); (case b => kernel_rfl); (case c => kernel_rfl); (case v => first | (refine' look_of ?gg ?ge; (case gg => (repeat (first | (with_reducible exact guess_hit_l) | (with_reducible apply guess_miss_l) | (with_reducible exact guess_hit_if) | ((with_reducible show Guess (@ite _ _ _ _ _) _); (with_reducible apply guess_miss_if))))); (case ge => kernel_rfl)) | exact rfl)) | (name_kind "globalImplicit"; refine' nameX_K ?F ?X ?T ?e ?_ ?a ?b ?c; (case F => k_asm); (case X => k_asm); (case T => k_asm); (case e => with_reducible (first | exact gn_from_jd_armenian _ | exact gn_to_jd_julian _)); (case a => kernel_rfl); (case b => kernel_rfl); (case c => kernel_rfl)))))
set_option maxRecDepth 100000 in
set_option maxHeartbeats 8000000 in
theorem c_fromjul_sar (day : Int) (t u v z : Tok) (hd : 2117212 ≤ day ∧ day < 10000000000) :
    Claim 253 [.int (latY day) t, .int (latM day) u, .int (latD day) v, .str (Str.ofString "sarkawag") z] 6 (RetT3 (sarY day) (sarM day) (sarD day)) := by
  refine gate_out ?_
  simp (disch := (k_dflt (
  intro prog w p loose mean mg mb dp un gd cn cs a ccd cl outer A₀ base h₀ L mm news s Q E B F X N T hk hdp hun hret
  (refine wpAny_call ?_; k_dflt (refine' code_def ?k1 ?k2 ?k3 ?k4 ?k5 ?kA ?kF ?kK ?k6 ?k7 ?k8 ?k9 ?kB ?_ ?c2 ?c3 ?c4 ?c5; (case kA => exact rfl); (case kF => exact rfl); (case kK => assumption); (case k1 => k_asm); (case k2 => k_asm); (case k3 => k_asm); (case k4 => k_asm); (case k5 => k_asm); (case k6 => k_is); (case k7 => k_is); (case k8 => ktr_room); (case k9 => exact binds_K (by k_in) rfl (by k_is) rfl rfl rfl); (case c5 => decide); (case kB => exact locs rfl); (case c2 => exact rfl); (case c3 => exact rfl); (case c4 => exact rfl); k_whole; intro g' L' h' FG' F' N' B' X' T'; (try dsimp only); (try k_lift B'); (try k_fold)); (try ((rename Fr _ _ _ _ => F8); (first | (have F9 := Fr_as F8 (m' := fun y9 => List.lookup y9 [(Str.ofString "method", (.str (Str.ofString "sarkawag") z : Value)), (Str.ofString "day", (.int (latD day) v : Value)), (Str.ofString "month", (.int (latM day) u : Value)), (Str.ofString "year", (.int (latY day) t : Value))]) rfl) | (have F9 := Fr_as F8 (m' := fun y9 => List.lookup y9 [(Str.ofString "year", (.int (latY day) t : Value)), (Str.ofString "month", (.int (latM day) u : Value)), (Str.ofString "day", (.int (latD day) v : Value)), (Str.ofString "method", (.str (Str.ofString "sarkawag") z : Value))]) rfl)); clear F8));  k_steps; all_goals (refine' ret_T3 hret ?e1 ?e2 ?e3 ?F ?NM ?hs; (case F => k_asm); (case NM => (refine' ⟨?n1, ?n2⟩; (case n1 => k_asm); (case n2 => k_mem))); (case hs => (first | (intro p9 hp9; (repeat (with_reducible refine List.mem_cons_of_mem _ ?_)); exact hp9) | kcj_all)); (case e1 => (with_reducible exact rfl)); (case e2 => (with_reducible exact rfl)); (case e3 => (with_reducible exact rfl))))))) only [↓gate_true]
end
section
local macro_rules | `(tactic| walk_at "call ref") => `(tactic| (k_here; (with_reducible show wpAny _ _ (PySem.call (Value.ref 71) [Value.float (H (2 * _ - 1)) _]) _ _ _); k_dflt (refine' use (c_fromjd_greg _ _ ?hd) ?k1 ?k2 ?k3 ?k4 ?k5 ?kK ?kd ?ku ?_; (case k1 => k_asm); (case k2 => k_asm); (case k3 => k_asm); (case k4 => k_asm); (case k5 => k_asm); (case kK => first | exact rfl | assumption); (case kd => first | ((with_reducible refine' room_dp ?rdh ?rdk); (case rdh => with_reducible assumption); (case rdk => decide)) | ktr_room); (case ku => first | ((with_reducible refine' room_un ?ruh ?ruk); (case ruh => with_reducible assumption); (case ruk => decide)) | ktr_units); (case hd => (law_clear; first | omega | ((try simp only [decide_eq_true_eq, decide_eq_false_iff_not, gj, ij, cj, jj, aj, sj, leapS] at *); first | done | omega))); intro D9 t9 u9 v9 h9 tk9 F9 N9; (try dsimp only); (try k_fold))))
local macro_rules | `(tactic| walk_at "call ref") => `(tactic| (k_here; (with_reducible show wpAny _ _ (PySem.call (Value.ref 229) [Value.int _ _, Value.int _ _, Value.int _ _, Value.none]) _ _ _); k_dflt (refine' use (c_tojd_n _ _ _ _ _ _ ?hy ?hm ?hd ?hl) ?k1 ?k2 ?k3 ?k4 ?k5 ?kK ?kd ?ku ?_; (case k1 => k_asm); (case k2 => k_asm); (case k3 => k_asm); (case k4 => k_asm); (case k5 => k_asm); (case kK => first | exact rfl | assumption); (case kd => first | ((with_reducible refine' room_dp ?rdh ?rdk); (case rdh => with_reducible assumption); (case rdk => decide)) | ktr_room); (case ku => first | ((with_reducible refine' room_un ?ruh ?ruk); (case ruh => with_reducible assumption); (case ruk => decide)) | ktr_units); (case hy => (law_clear; first | omega | ((try simp only [decide_eq_true_eq, decide_eq_false_iff_not, gj, ij, cj, jj, aj, sj, leapS] at *); first | done | omega))); (case hm => (law_clear; first | omega | ((try simp only [decide_eq_true_eq, decide_eq_false_iff_not, gj, ij, cj, jj, aj, sj, leapS] at *); first | done | omega))); (case hd => (law_clear; first | omega | ((try simp only [decide_eq_true_eq, decide_eq_false_iff_not, gj, ij, cj, jj, aj, sj, leapS] at *); first | done | omega))); (case hl => (law_clear; first | omega | ((try simp only [decide_eq_true_eq, decide_eq_false_iff_not, gj, ij, cj, jj, aj, sj, leapS] at *); first | done | omega))); intro t9 h9 tk9 F9 N9; (try dsimp only); (try k_fold))))
local macro_rules | `(tactic| walk_at "call ref") => `(tactic| (k_here; (with_reducible show wpAny _ _ (PySem.call (Value.ref 229) [Value.int _ _, Value.int _ _, Value.int _ _, Value.str (Str.ofString "sarkawag") _]) _ _ _); k_dflt (refine' use (c_tojd_s _ _ _ _ _ _ _ ?hy ?hm ?hd ?hl) ?k1 ?k2 ?k3 ?k4 ?k5 ?kK ?kd ?ku ?_; (case k1 => k_asm); (case k2 => k_asm); (case k3 => k_asm); (case k4 => k_asm); (case k5 => k_asm); (case kK => first | exact rfl | assumption); (case kd => first | ((with_reducible refine' room_dp ?rdh ?rdk); (case rdh => with_reducible assumption); (case rdk => decide)) | ktr_room); (case ku => first | ((with_reducible refine' room_un ?ruh ?ruk); (case ruh => with_reducible assumption); (case ruk => decide)) | ktr_units); (case hy => (law_clear; first | omega | ((try simp only [decide_eq_true_eq, decide_eq_false_iff_not, gj, ij, cj, jj, aj, sj, leapS] at *); first | done | omega))); (case hm => (law_clear; first | omega | ((try simp only [decide_eq_true_eq, decide_eq_false_iff_not, gj, ij, cj, jj, aj, sj, leapS] at *); first | done | omega))); (case hd => (law_clear; first | omega | ((try simp only [decide_eq_true_eq, decide_eq_false_iff_not, gj, ij, cj, jj, aj, sj, leapS] at *); first | done | omega))); (case hl => (law_clear; first | omega | ((try simp only [decide_eq_true_eq, decide_eq_false_iff_not, gj, ij, cj, jj, aj, sj, leapS] at *); first | done | omega))); intro t9 h9 tk9 F9 N9; (try dsimp only); (try k_fold))))
local macro_rules | `(tactic| walk_at "call ref") => `(tactic| (k_here; (with_reducible show wpAny _ _ (PySem.call (Value.ref 229) [Value.int (armY _) _, Value.int (armM _) _, Value.int (armD _) _, Value.none]) _ _ _); k_dflt (refine' use (c_tojd_arm_at _ _ _ _ ?hd) ?k1 ?k2 ?k3 ?k4 ?k5 ?kK ?kd ?ku ?_; (case k1 => k_asm); (case k2 => k_asm); (case k3 => k_asm); (case k4 => k_asm); (case k5 => k_asm); (case kK => first | exact rfl | assumption); (case kd => first | ((with_reducible refine' room_dp ?rdh ?rdk); (case rdh => with_reducible assumption); (case rdk => decide)) | ktr_room); (case ku => first | ((with_reducible refine' room_un ?ruh ?ruk); (case ruh => with_reducible assumption); (case ruk => decide)) | ktr_units); (case hd => (law_clear; first | omega | ((try simp only [decide_eq_true_eq, decide_eq_false_iff_not, gj, ij, cj, jj, aj, sj, leapS] at *); first | done | omega))); intro t9 h9 tk9 F9 N9; (try dsimp only); (try k_fold))))
local macro_rules | `(tactic| walk_at "call ref") => `(tactic| (k_here; (with_reducible show wpAny _ _ (PySem.call (Value.ref 229) [Value.int (sarY _) _, Value.int (sarM _) _, Value.int (sarD _) _, Value.str (Str.ofString "sarkawag") _]) _ _ _); k_dflt (refine' use (c_tojd_sar_at _ _ _ _ _ ?hd) ?k1 ?k2 ?k3 ?k4 ?k5 ?kK ?kd ?ku ?_; (case k1 => k_asm); (case k2 => k_asm); (case k3 => k_asm); (case k4 => k_asm); (case k5 => k_asm); (case kK => first | exact rfl | assumption); (case kd => first | ((with_reducible refine' room_dp ?rdh ?rdk); (case rdh => with_reducible assumption); (case rdk => decide)) | ktr_room); (case ku => first | ((with_reducible refine' room_un ?ruh ?ruk); (case ruh => with_reducible assumption); (case ruk => decide)) | ktr_units); (case hd => (law_clear; first | omega | ((try simp only [decide_eq_true_eq, decide_eq_false_iff_not, gj, ij, cj, jj, aj, sj, leapS] at *); first | done | omega))); intro t9 h9 tk9 F9 N9; (try dsimp only); (try k_fold))))
local macro_rules | `(tactic| walk_at "eval Name") => `(tactic| (k_here; k_dflt (first | (name_kind "local"; refine' nameX_L ?F ?v ?_ ?a ?b ?c; (case F => k_asm); (case a => kernel_rfl); (case b => kernel_rfl); (case c => kernel_rfl); (case v => first | (refine' look_of ?gg ?ge; (case gg => (repeat (first | (with_reducible exact guess_hit_l) | (with_reducible apply guess_miss_l) | (with_reducible exact guess_hit_if) | ((with_reducible show Guess (@ite _ _ _ _ _) _); (with_reducible apply guess_miss_if))))); (case ge => kernel_rfl)) | exact rfl)) | (name_kind "globalImplicit"; refine' nameX_K ?F ?X ?T ?e ?_ ?a ?b ?c; (case F => k_asm); (case X => k_asm); (case T => k_asm); (case e => with_reducible (first | exact gn_from_jd_gregorian _ | exact gn_to_jd_armenian _)); (case a => kernel_rfl); (case b => kernel_rfl); (case c => kernel_rfl)))))
set_option maxRecDepth 100000 in
set_option maxHeartbeats 8000000 in
theorem c_togreg_sar (day : Int) (t u v z : Tok) (hd : 2117212 ≤ day ∧ day < 10000000000) :
    Claim 261 [.int (sarY day) t, .int (sarM day) u, .int (sarD day) v, .str (Str.ofString "sarkawag") z] 6 (RetT3 (romY day) (romM day) (romD day)) := by
  refine gate_out ?_
  simp (disch := (k_dflt (
  intro prog w p loose mean mg mb dp un gd cn cs a ccd cl outer A₀ base h₀ L mm news s Q E B F X N T hk hdp hun hret
  (refine wpAny_call ?_; k_dflt (refine' code_def ?k1 ?k2 ?k3 ?k4 ?k5 ?kA ?kF ?kK ?k6 ?k7 ?k8 ?k9 ?kB ?_ ?c2 ?c3 ?c4 ?c5; (case kA => exact rfl); (case kF => exact rfl); (case kK => assumption); (case k1 => k_asm); (case k2 => k_asm); (case k3 => k_asm); (case k4 => k_asm); (case k5 => k_asm); (case k6 => k_is); (case k7 => k_is); (case k8 => ktr_room); (case k9 => exact binds_K (by k_in) rfl (by k_is) rfl rfl rfl); (case c5 => decide); (case kB => exact locs rfl); (case c2 => exact rfl); (case c3 => exact rfl); (case c4 => exact rfl); k_whole; intro g' L' h' FG' F' N' B' X' T'; (try dsimp only); (try k_lift B'); (try k_fold)); (try ((rename Fr _ _ _ _ => F8); (first | (have F9 := Fr_as F8 (m' := fun y9 => List.lookup y9 [(Str.ofString "method", (.str (Str.ofString "sarkawag") z : Value)), (Str.ofString "day", (.int (sarD day) v : Value)), (Str.ofString "month", (.int (sarM day) u : Value)), (Str.ofString "year", (.int (sarY day) t : Value))]) rfl) | (have F9 := Fr_as F8 (m' := fun y9 => List.lookup y9 [(Str.ofString "year", (.int (sarY day) t : Value)), (Str.ofString "month", (.int (sarM day) u : Value)), (Str.ofString "day", (.int (sarD day) v : Value)), (Str.ofString "method", (.str (Str.ofString "sarkawag") z : Value))]) rfl)); clear F8));  k_steps; all_goals (refine' ret_T3 hret ?e1 ?e2 ?e3 ?F ?NM ?hs; (case F => k_asm); (case NM => (refine' ⟨?n1, ?n2⟩; (case n1 => k_asm); (case n2 => k_mem))); (case hs => (first | (intro p9 hp9; (repeat (with_reducible refine List.mem_cons_of_mem _ ?_)); exact hp9) | kcj_all)); (case e1 => (with_reducible exact rfl)); (case e2 => (with_reducible exact rfl)); (case e3 => (with_reducible exact rfl))))))) only [↓gate_true]
end
section
local macro_rules | `(tactic| walk_at "call ref") => `(tactic| (k_here; (with_reducible show wpAny _ _ (PySem.call (Value.ref 64) [Value.int _ _, Value.int _ _, Value.int _ _]) _ _ _); k_dflt (refine' use (c_tojd_greg _ _ _ _ _ _ ?hy ?hm ?h1 ?h2 ?h3 ?h4 ?h5) ?k1 ?k2 ?k3 ?k4 ?k5 ?kK ?kd ?ku ?_; (case k1 => k_asm); (case k2 => k_asm); (case k3 => k_asm); (case k4 => k_asm); (case k5 => k_asm); (case kK => first | exact rfl | assumption); (case kd => first | ((with_reducible refine' room_dp ?rdh ?rdk); (case rdh => with_reducible assumption); (case rdk => decide)) | ktr_room); (case ku => first | ((with_reducible refine' room_un ?ruh ?ruk); (case ruh => with_reducible assumption); (case ruk => decide)) | ktr_units); (case hy => (law_clear; first | omega | ((try simp only [decide_eq_true_eq, decide_eq_false_iff_not, gj, ij, cj, jj, aj, sj, leapS] at *); first | done | omega))); (case hm => (law_clear; first | omega | ((try simp only [decide_eq_true_eq, decide_eq_false_iff_not, gj, ij, cj, jj, aj, sj, leapS] at *); first | done | omega))); (case h1 => (law_clear; first | omega | ((try simp only [decide_eq_true_eq, decide_eq_false_iff_not, gj, ij, cj, jj, aj, sj, leapS] at *); first | done | omega))); (case h2 => (law_clear; first | omega | ((try simp only [decide_eq_true_eq, decide_eq_false_iff_not, gj, ij, cj, jj, aj, sj, leapS] at *); first | done | omega))); (case h3 => (law_clear; first | omega | ((try simp only [decide_eq_true_eq, decide_eq_false_iff_not, gj, ij, cj, jj, aj, sj, leapS] at *); first | done | omega))); (case h4 => (law_clear; first | omega | ((try simp only [decide_eq_true_eq, decide_eq_false_iff_not, gj, ij, cj, jj, aj, sj, leapS] at *); first | done | omega))); (case h5 => (law_clear; first | omega | ((try simp only [decide_eq_true_eq, decide_eq_false_iff_not, gj, ij, cj, jj, aj, sj, leapS] at *); first | done | omega))); intro t9 h9 tk9 F9 N9; (try dsimp only); (try k_fold))))
local macro_rules | `(tactic| walk_at "call ref") => `(tactic| (k_here; (with_reducible show wpAny _ _ (PySem.call (Value.ref 64) [Value.int (romY _) _, Value.int (romM _) _, Value.int (romD _) _]) _ _ _); k_dflt (refine' use (c_tojd_rom _ _ _ _ ?hd) ?k1 ?k2 ?k3 ?k4 ?k5 ?kK ?kd ?ku ?_; (case k1 => k_asm); (case k2 => k_asm); (case k3 => k_asm); (case k4 => k_asm); (case k5 => k_asm); (case kK => first | exact rfl | assumption); (case kd => first | ((with_reducible refine' room_dp ?rdh ?rdk); (case rdh => with_reducible assumption); (case rdk => decide)) | ktr_room); (case ku => first | ((with_reducible refine' room_un ?ruh ?ruk); (case ruh => with_reducible assumption); (case ruk => decide)) | ktr_units); (case hd => (law_clear; first | omega | ((try simp only [decide_eq_true_eq, decide_eq_false_iff_not, gj, ij, cj, jj, aj, sj, leapS] at *); first | done | omega))); intro t9 h9 tk9 F9 N9; (try dsimp only); (try k_fold))))
local macro_rules | `(tactic| walk_at "call ref") => `(tactic| (k_here; (with_reducible show wpAny _ _ (PySem.call (Value.ref 237) [Value.float (H (2 * _ - 1)) _, Value.none]) _ _ _); k_dflt (refine' use (c_fromjd_arm _ _ ?hd) ?k1 ?k2 ?k3 ?k4 ?k5 ?kK ?kd ?ku ?_; (case k1 => k_asm); (case k2 => k_asm); (case k3 => k_asm); (case k4 => k_asm); (case k5 => k_asm); (case kK => first | exact rfl | assumption); (case kd => first | ((with_reducible refine' room_dp ?rdh ?rdk); (case rdh => with_reducible assumption); (case rdk => decide)) | ktr_room); (case ku => first | ((with_reducible refine' room_un ?ruh ?ruk); (case ruh => with_reducible assumption); (case ruk => decide)) | ktr_units); (case hd => (law_clear; first | omega | ((try simp only [decide_eq_true_eq, decide_eq_false_iff_not, gj, ij, cj, jj, aj, sj, leapS] at *); first | done | omega))); intro D9 t9 u9 v9 h9 tk9 F9 N9; (try dsimp only); (try k_fold))))
local macro_rules | `(tactic| walk_at "call ref") => `(tactic| (k_here; (with_reducible show wpAny _ _ (PySem.call (Value.ref 237) [Value.float (H (2 * _ - 1)) _, Value.str (Str.ofString "sarkawag") _]) _ _ _); k_dflt (refine' use (c_fromjd_sar _ _ _ ?hd) ?k1 ?k2 ?k3 ?k4 ?k5 ?kK ?kd ?ku ?_; (case k1 => k_asm); (case k2 => k_asm); (case k3 => k_asm); (case k4 => k_asm); (case k5 => k_asm); (case kK => first | exact rfl | assumption); (case kd => first | ((with_reducible refine' room_dp ?rdh ?rdk); (case rdh => with_reducible assumption); (case rdk => decide)) | ktr_room); (case ku => first | ((with_reducible refine' room_un ?ruh ?ruk); (case ruh => with_reducible assumption); (case ruk => decide)) | ktr_units); (case hd => (law_clear; first | omega | ((try simp only [decide_eq_true_eq, decide_eq_false_iff_not, gj, ij, cj, jj, aj, sj, leapS] at *); first | done | omega))); intro D9 t9 u9 v9 h9 tk9 F9 N9; (try dsimp only); (try k_fold))))
local macro_rules | `(tactic| walk_at "eval Name") => `(tactic| (k_here; k_dflt (first | (name_kind "local"; refine' nameX_L ?F ?v ?_ ?a ?b ?c; (case F => k_asm); (case a => kernel_rfl); (case b => kernel_rfl); (case c => kernel_rfl); (case v => first | (refine' look_of ?gg ?ge; (case gg => (repeat (first | (with_reducible exact guess_hit_l) | (with_reducible apply guess_miss_l) | (with_reducible exact guess_hit_if) | ((with_reducible show Guess (@ite _ _ _ _ _) _); (with_reducible apply guess_miss_if))))); (case ge => kernel_rfl)) | exact rfl)) | (name_kind "globalImplicit"; refine' nameX_K ?F ?X ?T ?e ?_ ?a ?b ?c; (case F => k_asm); (case X => k_asm); (case T => k_asm); (case e => with_reducible (first | exact gn_from_jd_armenian _ | exact gn_to_jd_gregorian _)); (case a => kernel_rfl); (case b => kernel_rfl); (case c => kernel_rfl)))))
set_option maxRecDepth 100000 in
set_option maxHeartbeats 8000000 in
theorem c_fromgreg_sar (day : Int) (t u v z : Tok) (hd : 2117212 ≤ day ∧ day < 10000000000) :
    Claim 269 [.int (romY day) t, .int (romM day) u, .int (romD day) v, .str (Str.ofString "sarkawag") z] 6 (RetT3 (sarY day) (sarM day) (sarD day)) := by
  refine gate_out ?_
  simp (disch := (k_dflt (
  intro prog w p loose mean mg mb dp un gd cn cs a ccd cl outer A₀ base h₀ L mm news s Q E B F X N T hk hdp hun hret
  (refine wpAny_call ?_; k_dflt (refine' code_def ?k1 ?k2 ?k3 ?k4 ?k5 ?kA ?kF ?kK ?k6 ?k7 ?k8 ?k9 ?kB ?_ ?c2 ?c3 ?c4 ?c5; (case kA => exact rfl); (case kF => exact rfl); (case kK => assumption); (case k1 => k_asm); (case k2 => k_asm); (case k3 => k_asm); (case k4 => k_asm); (case k5 => k_asm); (case k6 => k_is); (case k7 => k_is); (case k8 => ktr_room); (case k9 => exact binds_K (by k_in) rfl (by k_is) rfl rfl rfl); (case c5 => decide); (case kB => exact locs rfl); (case c2 => exact rfl); (case c3 => exact rfl); (case c4 => exact rfl); k_whole; intro g' L' h' FG' F' N' B' X' T'; (try dsimp only); (try k_lift B'); (try k_fold)); (try ((rename Fr _ _ _ _ => F8); (first | (have F9 := Fr_as F8 (m' := fun y9 => List.lookup y9 [(Str.ofString "method", (.str (Str.ofString "sarkawag") z : Value)), (Str.ofString "day", (.int (romD day) v : Value)), (Str.ofString "month", (.int (romM day) u : Value)), (Str.ofString "year", (.int (romY day) t : Value))]) rfl) | (have F9 := Fr_as F8 (m' := fun y9 => List.lookup y9 [(Str.ofString "year", (.int (romY day) t : Value)), (Str.ofString "month", (.int (romM day) u : Value)), (Str.ofString "day", (.int (romD day) v : Value)), (Str.ofString "method", (.str (Str.ofString "sarkawag") z : Value))]) rfl)); clear F8));  k_steps; all_goals (refine' ret_T3 hret ?e1 ?e2 ?e3 ?F ?NM ?hs; (case F => k_asm); (case NM => (refine' ⟨?n1, ?n2⟩; (case n1 => k_asm); (case n2 => k_mem))); (case hs => (first | (intro p9 hp9; (repeat (with_reducible refine List.mem_cons_of_mem _ ?_)); exact hp9) | kcj_all)); (case e1 => (with_reducible exact rfl)); (case e2 => (with_reducible exact rfl)); (case e3 => (with_reducible exact rfl))))))) only [↓gate_true]
end
section
local macro_rules | `(tactic| walk_at "call ref") => `(tactic| (k_here; (with_reducible show wpAny _ _ (PySem.call (Value.ref 221) [Value.int _ _]) _ _ _); k_dflt (refine' use (c_leap_arm _ _) ?k1 ?k2 ?k3 ?k4 ?k5 ?kK ?kd ?ku ?_; (case k1 => k_asm); (case k2 => k_asm); (case k3 => k_asm); (case k4 => k_asm); (case k5 => k_asm); (case kK => first | exact rfl | assumption); (case kd => first | ((with_reducible refine' room_dp ?rdh ?rdk); (case rdh => with_reducible assumption); (case rdk => decide)) | ktr_room); (case ku => first | ((with_reducible refine' room_un ?ruh ?ruk); (case ruh => with_reducible assumption); (case ruk => decide)) | ktr_units); intro t9 h9 tk9 F9 N9; (try dsimp only); (try k_fold))))
local macro_rules | `(tactic| walk_at "eval Name") => `(tactic| (k_here; k_dflt (first | (name_kind "local"; refine' nameX_L ?F ?v ?_ ?a ?b ?c; (case F => k_asm); (case a => kernel_rfl); (case b => kernel_rfl); (case c => kernel_rfl); (case v => first | (refine' look_of ?gg ?ge; (case gg => (repeat (first | (with_reducible exact guess_hit_l) | (with_reducible apply guess_miss_l) | (with_reducible exact guess_hit_if) | ((with_reducible show Guess (@ite _ _ _ _ _) _); (with_reducible apply guess_miss_if))))); (case ge => kernel_rfl)) | exact rfl)) | (name_kind "globalImplicit"; refine' nameX_K ?F ?X ?T ?e ?_ ?a ?b ?c; (case F => k_asm); (case X => k_asm); (case T => k_asm); (case e => with_reducible (first | exact gn_leap_armenian _)); (case a => kernel_rfl); (case b => kernel_rfl); (case c => kernel_rfl)) | (name_kind "globalImplicit"; refine' nameX_B ?F ?X ?T ?e ?v ?n ?_ ?a ?b ?c; (case F => k_asm); (case X => k_asm); (case T => k_asm); (case e => with_reducible (first | exact gb_ValueError _)); (case v => with_reducible (first | exact bb_ValueError)); (case a => kernel_rfl); (case b => kernel_rfl); (case n => decide); (case c => kernel_rfl)))))
set_option maxRecDepth 100000 in
set_option maxHeartbeats 8000000 in
theorem c_ml_arm (y m : Int) (t u : Tok) (hm : 1 ≤ m ∧ m ≤ 13) :
    Claim 277 [.int y t, .int m u, .none] 3 (RetV fun t => .int (mla m) t) := by
  refine gate_out ?_
  simp (disch := (k_dflt (
  intro prog w p loose mean mg mb dp un gd cn cs a ccd cl outer A₀ base h₀ L mm news s Q E B F X N T hk hdp hun hret
  (refine wpAny_call ?_; k_dflt (refine' code_def ?k1 ?k2 ?k3 ?k4 ?k5 ?kA ?kF ?kK ?k6 ?k7 ?k8 ?k9 ?kB ?_ ?c2 ?c3 ?c4 ?c5; (case kA => exact rfl); (case kF => exact rfl); (case kK => assumption); (case k1 => k_asm); (case k2 => k_asm); (case k3 => k_asm); (case k4 => k_asm); (case k5 => k_asm); (case k6 => k_is); (case k7 => k_is); (case k8 => ktr_room); (case k9 => exact binds_K (by k_in) rfl (by k_is) rfl rfl rfl); (case c5 => decide); (case kB => exact locs rfl); (case c2 => exact rfl); (case c3 => exact rfl); (case c4 => exact rfl); k_whole; intro g' L' h' FG' F' N' B' X' T'; (try dsimp only); (try k_lift B'); (try k_fold)); (try ((rename Fr _ _ _ _ => F8); (first | (have F9 := Fr_as F8 (m' := fun y9 => List.lookup y9 [(Str.ofString "method", (.none : Value)), (Str.ofString "month", (.int m u : Value)), (Str.ofString "year", (.int y t : Value))]) rfl) | (have F9 := Fr_as F8 (m' := fun y9 => List.lookup y9 [(Str.ofString "year", (.int y t : Value)), (Str.ofString "month", (.int m u : Value)), (Str.ofString "method", (.none : Value))]) rfl)); clear F8));  k_steps; all_goals (refine' cb_retI hret ?e1 ?e2 ?e3; (case e2 => k_asm); (case e3 => first | k_asm | (refine' cb_drop ?cbN ?cbS; (case cbN => assumption); (case cbS => (first | (intro p9 hp9; (repeat (with_reducible refine List.mem_cons_of_mem _ ?_)); exact hp9) | kcj_all)))); (case e1 => (law_clear; (try simp only [decide_eq_true_eq, decide_eq_false_iff_not, beq_iff_eq, bne_iff_ne, beq_eq_false_iff_ne] at *); unfold mla; (repeat' split) <;> omega))))))) only [↓gate_true]
end
section
local macro_rules | `(tactic| walk_at "pad") => `(tactic| fail)
local macro_rules | `(tactic| walk_at "call ref") => `(tactic| (k_here; (with_reducible show wpAny _ _ (PySem.call (Value.ref 221) [Value.int _ _]) _ _ _); k_dflt (refine' use (c_leap_arm _ _) ?k1 ?k2 ?k3 ?k4 ?k5 ?kK ?kd ?ku ?_; (case k1 => k_asm); (case k2 => k_asm); (case k3 => k_asm); (case k4 => k_asm); (case k5 => k_asm); (case kK => first | exact rfl | assumption); (case kd => first | ((with_reducible refine' room_dp ?rdh ?rdk); (case rdh => with_reducible assumption); (case rdk => decide)) | ktr_room); (case ku => first | ((with_reducible refine' room_un ?ruh ?ruk); (case ruh => with_reducible assumption); (case ruk => decide)) | ktr_units); intro t9 h9 tk9 F9 N9; (try dsimp only); (try k_fold))))
local macro_rules | `(tactic| walk_at "eval Name") => `(tactic| (k_here; k_dflt (first | (name_kind "local"; refine' nameX_L ?F ?v ?_ ?a ?b ?c; (case F => k_asm); (case a => kernel_rfl); (case b => kernel_rfl); (case c => kernel_rfl); (case v => first | (refine' look_of ?gg ?ge; (case gg => (repeat (first | (with_reducible exact guess_hit_l) | (with_reducible apply guess_miss_l) | (with_reducible exact guess_hit_if) | ((with_reducible show Guess (@ite _ _ _ _ _) _); (with_reducible apply guess_miss_if))))); (case ge => kernel_rfl)) | exact rfl)) | (name_kind "globalImplicit"; refine' nameX_K ?F ?X ?T ?e ?_ ?a ?b ?c; (case F => k_asm); (case X => k_asm); (case T => k_asm); (case e => with_reducible (first | exact gn_leap_armenian _)); (case a => kernel_rfl); (case b => kernel_rfl); (case c => kernel_rfl)) | (name_kind "globalImplicit"; refine' nameX_B ?F ?X ?T ?e ?v ?n ?_ ?a ?b ?c; (case F => k_asm); (case X => k_asm); (case T => k_asm); (case e => with_reducible (first | exact gb_ValueError _)); (case v => with_reducible (first | exact bb_ValueError)); (case a => kernel_rfl); (case b => kernel_rfl); (case n => decide); (case c => kernel_rfl)))))
set_option maxRecDepth 100000 in
set_option maxHeartbeats 8000000 in
theorem c_ml_sar (y m : Int) (t u z : Tok) (hm : 1 ≤ m ∧ m ≤ 13) :
    Claim 277 [.int y t, .int m u, .str (Str.ofString "sarkawag") z] 3 (RetV fun t => .int (mls y m) t) := by
  refine gate_out ?_
  simp (disch := (k_dflt (
  intro prog w p loose mean mg mb dp un gd cn cs a ccd cl outer A₀ base h₀ L mm news s Q E B F X N T hk hdp hun hret
  (refine wpAny_call ?_; k_dflt (refine' code_def ?k1 ?k2 ?k3 ?k4 ?k5 ?kA ?kF ?kK ?k6 ?k7 ?k8 ?k9 ?kB ?_ ?c2 ?c3 ?c4 ?c5; (case kA => exact rfl); (case kF => exact rfl); (case kK => assumption); (case k1 => k_asm); (case k2 => k_asm); (case k3 => k_asm); (case k4 => k_asm); (case k5 => k_asm); (case k6 => k_is); (case k7 => k_is); (case k8 => ktr_room); (case k9 => exact binds_K (by k_in) rfl (by k_is) rfl rfl rfl); (case c5 => decide); (case kB => exact locs rfl); (case c2 => exact rfl); (case c3 => exact rfl); (case c4 => exact rfl); k_whole; intro g' L' h' FG' F' N' B' X' T'; (try dsimp only); (try k_lift B'); (try k_fold)); (try ((rename Fr _ _ _ _ => F8); (first | (have F9 := Fr_as F8 (m' := fun y9 => List.lookup y9 [(Str.ofString "method", (.str (Str.ofString "sarkawag") z : Value)), (Str.ofString "month", (.int m u : Value)), (Str.ofString "year", (.int y t : Value))]) rfl) | (have F9 := Fr_as F8 (m' := fun y9 => List.lookup y9 [(Str.ofString "year", (.int y t : Value)), (Str.ofString "month", (.int m u : Value)), (Str.ofString "method", (.str (Str.ofString "sarkawag") z : Value))]) rfl)); clear F8));  k_steps; all_goals (refine' cb_retI hret ?e1 ?e2 ?e3; (case e2 => k_asm); (case e3 => first | k_asm | (refine' cb_drop ?cbN ?cbS; (case cbN => assumption); (case cbS => (first | (intro p9 hp9; (repeat (with_reducible refine List.mem_cons_of_mem _ ?_)); exact hp9) | kcj_all)))); (case e1 => (law_clear; (try simp only [decide_eq_true_eq, decide_eq_false_iff_not, beq_iff_eq, bne_iff_ne, beq_eq_false_iff_ne] at *); unfold mls; (repeat' split) <;> omega))))))) only [↓gate_true]
end
section
local macro_rules | `(tactic| walk_at "eval Name") => `(tactic| (k_here; k_dflt (first | (name_kind "local"; refine' nameX_L ?F ?v ?_ ?a ?b ?c; (case F => k_asm); (case a => kernel_rfl); (case b => kernel_rfl); (case c => kernel_rfl); (case v => first | (refine' look_of ?gg ?ge; (case gg => (repeat (first | (with_reducible exact guess_hit_l) | (with_reducible apply guess_miss_l) | (with_reducible exact guess_hit_if) | ((with_reducible show Guess (@ite _ _ _ _ _) _); (with_reducible apply guess_miss_if))))); (case ge => kernel_rfl)) | exact rfl)))))
set_option maxRecDepth 100000 in
set_option maxHeartbeats 8000000 in
theorem c_off_thirty (r : Int) (t : Tok) (h0 : 0 ≤ r ∧ r < 10631) :
    Claim 304 [.int r t, .ref 280] 1 (RetT2 (offI thirty r).1 (offI thirty r).2) := by
  refine gate_out ?_
  simp (disch := (k_dflt (
  intro prog w p loose mean mg mb dp un gd cn cs a ccd cl outer A₀ base h₀ L mm news s Q E B F X N T hk hdp hun hret
  have e : thirty.sum = 10631 := by decide +kernel
  have hs : r < thirty.sum := by rw [e]; exact h0.2
  clear e
  (refine wpAny_call ?_; (k_dflt cell_enter); (try ((rename Fr _ _ _ _ => F8); (first | (have F9 := Fr_as F8 (m' := fun y9 => List.lookup y9 [(Str.ofString "sizes", (.ref 280 : Value)), (Str.ofString "rest", (.int r t : Value))]) rfl) | (have F9 := Fr_as F8 (m' := fun y9 => List.lookup y9 [(Str.ofString "rest", (.int r t : Value)), (Str.ofString "sizes", (.ref 280 : Value))]) rfl)); clear F8)); (k_with "exec While Compare cons nil" => k_while (fun _ rest place => 0 ≤ place ∧ place < 30 ∧ 0 ≤ rest ∧ OffInv thirty r place rest) (fun _ rest place => 30 - place.toNat) "rest" "place"); (k_with "state" => first | exact ⟨by omega, by omega, by omega, off_start hs⟩ | exact off_turn' (N := 30) rfl (by assumption) (by omega) (by omega) (by omega) (by omega)); k_steps; all_goals (refine' ret_T2 hret ?e1 ?e2 ?F ?NM ?hs; (case F => k_asm); (case NM => (refine' ⟨?n1, ?n2⟩; (case n1 => k_asm); (case n2 => k_mem))); (case hs => (first | (intro p9 hp9; (repeat (with_reducible refine List.mem_cons_of_mem _ ?_)); exact hp9) | kcj_all)); (case e1 => exact (off_end' (N := 30) rfl (by assumption) (by omega) (by omega) (by law_clear; (try simp only [thirty, third, fourth, plain1] at *); omega)).1); (case e2 => exact (off_end' (N := 30) rfl (by assumption) (by omega) (by omega) (by law_clear; (try simp only [thirty, third, fourth, plain1] at *); omega)).2)))))) only [↓gate_true]
end
section
local macro_rules | `(tactic| walk_at "pad") => `(tactic| fail)
local macro_rules | `(tactic| walk_at "eval Name") => `(tactic| (k_here; k_dflt (first | (name_kind "local"; refine' nameX_L ?F ?v ?_ ?a ?b ?c; (case F => k_asm); (case a => kernel_rfl); (case b => kernel_rfl); (case c => kernel_rfl); (case v => first | (refine' look_of ?gg ?ge; (case gg => (repeat (first | (with_reducible exact guess_hit_l) | (with_reducible apply guess_miss_l) | (with_reducible exact guess_hit_if) | ((with_reducible show Guess (@ite _ _ _ _ _) _); (with_reducible apply guess_miss_if))))); (case ge => kernel_rfl)) | exact rfl)))))
set_option maxRecDepth 100000 in
set_option maxHeartbeats 8000000 in
theorem c_off_third (r : Int) (t : Tok) (h0 : 0 ≤ r ∧ r < 1461) :
    Claim 304 [.int r t, .ref 281] 1 (RetT2 (offI third r).1 (offI third r).2) := by
  refine gate_out ?_
  simp (disch := (k_dflt (
  intro prog w p loose mean mg mb dp un gd cn cs a ccd cl outer A₀ base h₀ L mm news s Q E B F X N T hk hdp hun hret
  have e : third.sum = 1461 := by decide +kernel
  have hs : r < third.sum := by rw [e]; exact h0.2
  clear e
  (refine wpAny_call ?_; (k_dflt cell_enter); (try ((rename Fr _ _ _ _ => F8); (first | (have F9 := Fr_as F8 (m' := fun y9 => List.lookup y9 [(Str.ofString "sizes", (.ref 281 : Value)), (Str.ofString "rest", (.int r t : Value))]) rfl) | (have F9 := Fr_as F8 (m' := fun y9 => List.lookup y9 [(Str.ofString "rest", (.int r t : Value)), (Str.ofString "sizes", (.ref 281 : Value))]) rfl)); clear F8)); (k_with "exec While Compare cons nil" => k_while (fun _ rest place => 0 ≤ place ∧ place < 4 ∧ 0 ≤ rest ∧ OffInv third r place rest) (fun _ rest place => 4 - place.toNat) "rest" "place"); (k_with "state" => first | exact ⟨by omega, by omega, by omega, off_start hs⟩ | exact off_turn' (N := 4) rfl (by assumption) (by omega) (by omega) (by omega) (by omega)); k_steps; all_goals (refine' ret_T2 hret ?e1 ?e2 ?F ?NM ?hs; (case F => k_asm); (case NM => (refine' ⟨?n1, ?n2⟩; (case n1 => k_asm); (case n2 => k_mem))); (case hs => (first | (intro p9 hp9; (repeat (with_reducible refine List.mem_cons_of_mem _ ?_)); exact hp9) | kcj_all)); (case e1 => exact (off_end' (N := 4) rfl (by assumption) (by omega) (by omega) (by law_clear; (try simp only [thirty, third, fourth, plain1] at *); omega)).1); (case e2 => exact (off_end' (N := 4) rfl (by assumption) (by omega) (by omega) (by law_clear; (try simp only [thirty, third, fourth, plain1] at *); omega)).2)))))) only [↓gate_true]
end
section
local macro_rules | `(tactic| walk_at "eval Name") => `(tactic| (k_here; k_dflt (first | (name_kind "local"; refine' nameX_L ?F ?v ?_ ?a ?b ?c; (case F => k_asm); (case a => kernel_rfl); (case b => kernel_rfl); (case c => kernel_rfl); (case v => first | (refine' look_of ?gg ?ge; (case gg => (repeat (first | (with_reducible exact guess_hit_l) | (with_reducible apply guess_miss_l) | (with_reducible exact guess_hit_if) | ((with_reducible show Guess (@ite _ _ _ _ _) _); (with_reducible apply guess_miss_if))))); (case ge => kernel_rfl)) | exact rfl)))))
set_option maxRecDepth 100000 in
set_option maxHeartbeats 8000000 in
theorem c_off_fourth (r : Int) (t : Tok) (h0 : 0 ≤ r ∧ r < 1461) :
    Claim 304 [.int r t, .ref 282] 1 (RetT2 (offI fourth r).1 (offI fourth r).2) := by
  refine gate_out ?_
  simp (disch := (k_dflt (
  intro prog w p loose mean mg mb dp un gd cn cs a ccd cl outer A₀ base h₀ L mm news s Q E B F X N T hk hdp hun hret
  have e : fourth.sum = 1461 := by decide +kernel
  have hs : r < fourth.sum := by rw [e]; exact h0.2
  clear e
  (refine wpAny_call ?_; (k_dflt cell_enter); (try ((rename Fr _ _ _ _ => F8); (first | (have F9 := Fr_as F8 (m' := fun y9 => List.lookup y9 [(Str.ofString "sizes", (.ref 282 : Value)), (Str.ofString "rest", (.int r t : Value))]) rfl) | (have F9 := Fr_as F8 (m' := fun y9 => List.lookup y9 [(Str.ofString "rest", (.int r t : Value)), (Str.ofString "sizes", (.ref 282 : Value))]) rfl)); clear F8)); (k_with "exec While Compare cons nil" => k_while (fun _ rest place => 0 ≤ place ∧ place < 4 ∧ 0 ≤ rest ∧ OffInv fourth r place rest) (fun _ rest place => 4 - place.toNat) "rest" "place"); (k_with "state" => first | exact ⟨by omega, by omega, by omega, off_start hs⟩ | exact off_turn' (N := 4) rfl (by assumption) (by omega) (by omega) (by omega) (by omega)); k_steps; all_goals (refine' ret_T2 hret ?e1 ?e2 ?F ?NM ?hs; (case F => k_asm); (case NM => (refine' ⟨?n1, ?n2⟩; (case n1 => k_asm); (case n2 => k_mem))); (case hs => (first | (intro p9 hp9; (repeat (with_reducible refine List.mem_cons_of_mem _ ?_)); exact hp9) | kcj_all)); (case e1 => exact (off_end' (N := 4) rfl (by assumption) (by omega) (by omega) (by law_clear; (try simp only [thirty, third, fourth, plain1] at *); omega)).1); (case e2 => exact (off_end' (N := 4) rfl (by assumption) (by omega) (by omega) (by law_clear; (try simp only [thirty, third, fourth, plain1] at *); omega)).2)))))) only [↓gate_true]
end
section
local macro_rules | `(tactic| walk_at "pad") => `(tactic| fail)
local macro_rules | `(tactic| walk_at "eval Name") => `(tactic| (k_here; k_dflt (first | (name_kind "local"; refine' nameX_L ?F ?v ?_ ?a ?b ?c; (case F => k_asm); (case a => kernel_rfl); (case b => kernel_rfl); (case c => kernel_rfl); (case v => first | (refine' look_of ?gg ?ge; (case gg => (repeat (first | (with_reducible exact guess_hit_l) | (with_reducible apply guess_miss_l) | (with_reducible exact guess_hit_if) | ((with_reducible show Guess (@ite _ _ _ _ _) _); (with_reducible apply guess_miss_if))))); (case ge => kernel_rfl)) | exact rfl)))))
set_option maxRecDepth 100000 in
set_option maxHeartbeats 8000000 in
theorem c_off_plain1 (r : Int) (t : Tok) (h0 : 0 ≤ r ∧ r < 365) :
    Claim 304 [.int r t, .ref 283] 1 (RetT2 (offI plain1 r).1 (offI plain1 r).2) := by
  refine gate_out ?_
  simp (disch := (k_dflt (
  intro prog w p loose mean mg mb dp un gd cn cs a ccd cl outer A₀ base h₀ L mm news s Q E B F X N T hk hdp hun hret
  have e : plain1.sum = 365 := by decide +kernel
  have hs : r < plain1.sum := by rw [e]; exact h0.2
  clear e
  (refine wpAny_call ?_; (k_dflt cell_enter); (try ((rename Fr _ _ _ _ => F8); (first | (have F9 := Fr_as F8 (m' := fun y9 => List.lookup y9 [(Str.ofString "sizes", (.ref 283 : Value)), (Str.ofString "rest", (.int r t : Value))]) rfl) | (have F9 := Fr_as F8 (m' := fun y9 => List.lookup y9 [(Str.ofString "rest", (.int r t : Value)), (Str.ofString "sizes", (.ref 283 : Value))]) rfl)); clear F8)); (k_with "exec While Compare cons nil" => k_while (fun _ rest place => 0 ≤ place ∧ place < 1 ∧ 0 ≤ rest ∧ OffInv plain1 r place rest) (fun _ rest place => 1 - place.toNat) "rest" "place"); (k_with "state" => first | exact ⟨by omega, by omega, by omega, off_start hs⟩ | exact off_turn' (N := 1) rfl (by assumption) (by omega) (by omega) (by omega) (by omega)); k_steps; all_goals (refine' ret_T2 hret ?e1 ?e2 ?F ?NM ?hs; (case F => k_asm); (case NM => (refine' ⟨?n1, ?n2⟩; (case n1 => k_asm); (case n2 => k_mem))); (case hs => (first | (intro p9 hp9; (repeat (with_reducible refine List.mem_cons_of_mem _ ?_)); exact hp9) | kcj_all)); (case e1 => exact (off_end' (N := 1) rfl (by assumption) (by omega) (by omega) (by law_clear; (try simp only [thirty, third, fourth, plain1] at *); omega)).1); (case e2 => exact (off_end' (N := 1) rfl (by assumption) (by omega) (by omega) (by law_clear; (try simp only [thirty, third, fourth, plain1] at *); omega)).2)))))) only [↓gate_true]
end
abbrev RetL (ns : List Int) : Heap → Addr → (Str → Option Value) → List (Addr × Obj) → Shared → (Value → Shared → Prop) → (Value → Shared → Prop) → Prop :=
  fun h₀ L m news s Q _ => ∀ (D : Addr) (vs : List Value) (n : Nat) (h' : Heap) (tk' : Nat), IntsAre vs ns → Fr h₀ L h' m → News h₀ L h' ((D, listOf vs.toArray n) :: news) → Q (.ref D) { s with heap := h', toks := tk' }
/-- a list of the ledger stands at hand -/
abbrev WithL (a : Addr) (vs : List Value) (n : Nat) (R : Heap → Addr → (Str → Option Value) → List (Addr × Obj) → Shared → (Value → Shared → Prop) → (Value → Shared → Prop) → Prop) : Heap → Addr → (Str → Option Value) → List (Addr × Obj) → Shared → (Value → Shared → Prop) → (Value → Shared → Prop) → Prop :=
  fun h₀ L m news s Q E => (a, listOf vs.toArray n) ∈ news ∧ R h₀ L m news s Q E
theorem ret_L {h₀ h' : Heap} {L D : Addr} {m : Str → Option Value} {news news' : List (Addr × Obj)} {s : Shared} {Q E : Value → Shared → Prop} {tk' : Nat} {vs : List Value} {n : Nat} {ns : List Int}
    (hret : RetL ns h₀ L m news s Q E) (hi : IntsAre vs ns) (F : Fr h₀ L h' m) (NM : News h₀ L h' news' ∧ (D, listOf vs.toArray n) ∈ news') (hs : ∀ p ∈ news, p ∈ news') : Q (.ref D) { s with heap := h', toks := tk' } :=
  hret D vs n h' tk' hi F fun p hp => by
    rcases List.mem_cons.mp hp with rfl | hp
    · exact NM.1 _ NM.2
    · exact NM.1 p (hs p hp)
section
local macro_rules | `(tactic| walk_at "eval Name") => `(tactic| (k_here; k_dflt (first | (name_kind "local"; refine' nameX_L ?F ?v ?_ ?a ?b ?c; (case F => k_asm); (case a => kernel_rfl); (case b => kernel_rfl); (case c => kernel_rfl); (case v => first | (refine' look_of ?gg ?ge; (case gg => (repeat (first | (with_reducible exact guess_hit_l) | (with_reducible apply guess_miss_l) | (with_reducible exact guess_hit_if) | ((with_reducible show Guess (@ite _ _ _ _ _) _); (with_reducible apply guess_miss_if))))); (case ge => kernel_rfl)) | exact rfl)))))
set_option maxRecDepth 100000 in
set_option maxHeartbeats 8000000 in
theorem c_off_list (r : Int) (t : Tok) (ns : List Int) (a : Addr) (vs : List Value) (n : Nat) (hi : IntsAre vs ns) (hl : (ns.length : Int) ≤ 100) (h0 : 0 ≤ r) (hs : r < ns.sum) :
    Claim 304 [.int r t, .ref a] 1 (WithL a vs n (RetT2 (offI ns r).1 (offI ns r).2)) := by
  refine gate_out ?_
  simp (disch := (k_dflt (
  intro prog w p loose mean mg mb dp un gd cn cs a ccd cl outer A₀ base h₀ L mm news s Q E B F X N T hk hdp hun hret
  obtain ⟨hmem, hret⟩ := hret
  have hne : (0 : Int) < ns.length := by
    cases ns with
    | nil => rw [List.sum_nil] at hs; omega
    | cons b l => rw [List.length_cons]; omega
  (refine wpAny_call ?_; (k_dflt cell_enter); (try ((rename Fr _ _ _ _ => F8); (first | (have F9 := Fr_as F8 (m' := fun y9 => List.lookup y9 [(Str.ofString "sizes", (.ref a : Value)), (Str.ofString "rest", (.int r t : Value))]) rfl) | (have F9 := Fr_as F8 (m' := fun y9 => List.lookup y9 [(Str.ofString "rest", (.int r t : Value)), (Str.ofString "sizes", (.ref a : Value))]) rfl)); clear F8)); (k_with "exec While Compare cons nil" => k_while (fun _ rest place => 0 ≤ place ∧ place < ns.length ∧ 0 ≤ rest ∧ OffInv ns r place rest) (fun _ rest place => ns.length - place.toNat) "rest" "place"); (k_with "state" => first | exact ⟨by omega, by omega, by omega, off_start hs⟩ | exact off_turn' (N := ns.length) rfl (by assumption) (by omega) (by omega) (by omega) (by omega)); k_steps; all_goals (refine' ret_T2 hret ?e1 ?e2 ?F ?NM ?hs; (case F => k_asm); (case NM => (refine' ⟨?n1, ?n2⟩; (case n1 => k_asm); (case n2 => k_mem))); (case hs => (first | (intro p9 hp9; (repeat (with_reducible refine List.mem_cons_of_mem _ ?_)); exact hp9) | kcj_all)); (case e1 => exact (off_end' (N := ns.length) rfl (by assumption) (by omega) (by omega) (by law_clear; (try simp only [thirty, third, fourth, plain1] at *); omega)).1); (case e2 => exact (off_end' (N := ns.length) rfl (by assumption) (by omega) (by omega) (by law_clear; (try simp only [thirty, third, fourth, plain1] at *); omega)).2)))))) only [↓gate_true]
end
section
local macro_rules | `(tactic| walk_at "pad") => `(tactic| fail)
local macro_rules | `(tactic| walk_at "eval Name") => `(tactic| (k_here; k_dflt (first | (name_kind "local"; refine' nameX_L ?F ?v ?_ ?a ?b ?c; (case F => k_asm); (case a => kernel_rfl); (case b => kernel_rfl); (case c => kernel_rfl); (case v => first | (refine' look_of ?gg ?ge; (case gg => (repeat (first | (with_reducible exact guess_hit_l) | (with_reducible apply guess_miss_l) | (with_reducible exact guess_hit_if) | ((with_reducible show Guess (@ite _ _ _ _ _) _); (with_reducible apply guess_miss_if))))); (case ge => kernel_rfl)) | exact rfl)))))
set_option maxRecDepth 100000 in
set_option maxHeartbeats 8000000 in
theorem c_jd (day : Int) (t : Tok) (hd : -20000000000 < day ∧ day < 20000000000) :
    Claim 297 [.int day t] 1 (RetV fun t => .float (H (2 * day - 1)) t) := by
  refine gate_out ?_
  simp (disch := (k_dflt (
  intro prog w p loose mean mg mb dp un gd cn cs a ccd cl outer A₀ base h₀ L mm news s Q E B F X N T hk hdp hun hret
  (refine wpAny_call ?_; (k_dflt cell_enter); (try ((rename Fr _ _ _ _ => F8); (first | (have F9 := Fr_as F8 (m' := fun y9 => List.lookup y9 [(Str.ofString "day", (.int day t : Value))]) rfl) | (have F9 := Fr_as F8 (m' := fun y9 => List.lookup y9 [(Str.ofString "day", (.int day t : Value))]) rfl)); clear F8));  k_steps; all_goals (refine' ret_F hret ?e1 ?e2 ?e3; (case e2 => k_asm); (case e3 => first | k_asm | (refine' cb_drop ?cbN ?cbS; (case cbN => assumption); (case cbS => (first | (intro p9 hp9; (repeat (with_reducible refine List.mem_cons_of_mem _ ?_)); exact hp9) | kcj_all)))); (case e1 => (law_clear; (try simp only [decide_eq_true_eq, decide_eq_false_iff_not] at *); first | done | omega))))))) only [↓gate_true]
end
section
local macro_rules | `(tactic| walk_at "eval Name") => `(tactic| (k_here; k_dflt (first | (name_kind "local"; refine' nameX_L ?F ?v ?_ ?a ?b ?c; (case F => k_asm); (case a => kernel_rfl); (case b => kernel_rfl); (case c => kernel_rfl); (case v => first | (refine' look_of ?gg ?ge; (case gg => (repeat (first | (with_reducible exact guess_hit_l) | (with_reducible apply guess_miss_l) | (with_reducible exact guess_hit_if) | ((with_reducible show Guess (@ite _ _ _ _ _) _); (with_reducible apply guess_miss_if))))); (case ge => kernel_rfl)) | exact rfl)))))
set_option maxRecDepth 100000 in
set_option maxHeartbeats 8000000 in
theorem c_sizes0 (k size : Int) (t u : Tok) (hk : k = 0) :
    Claim 311 [.int k t, .int size u] 1 (RetL (szs 0 size)) := by
  refine gate_out ?_
  simp (disch := (k_dflt (
  intro prog w p loose mean mg mb dp un gd cn cs a ccd cl outer A₀ base h₀ L mm news s Q E B F X N T hk hdp hun hret
  (refine wpAny_call ?_; (k_dflt cell_enter); (try ((rename Fr _ _ _ _ => F8); (first | (have F9 := Fr_as F8 (m' := fun y9 => List.lookup y9 [(Str.ofString "size", (.int size u : Value)), (Str.ofString "kind", (.int k t : Value))]) rfl) | (have F9 := Fr_as F8 (m' := fun y9 => List.lookup y9 [(Str.ofString "kind", (.int k t : Value)), (Str.ofString "size", (.int size u : Value))]) rfl)); clear F8));  k_steps; all_goals (refine' ret_L hret ?hi ?F ?NM ?hs; (case F => k_asm); (case NM => (refine' ⟨?n1, ?n2⟩; (case n1 => k_asm); (case n2 => k_mem))); (case hs => (first | (intro p9 hp9; (repeat (with_reducible refine List.mem_cons_of_mem _ ?_)); exact hp9) | kcj_all)); (case hi => (show IntsAre _ [30, 29, 30, 29, 30, 29, 30, 29, 30, 29, 30, size - 325]; repeat constructor))))))) only [↓gate_true]
end
section
local macro_rules | `(tactic| walk_at "pad") => `(tactic| fail)
local macro_rules | `(tactic| walk_at "eval Name") => `(tactic| (k_here; k_dflt (first | (name_kind "local"; refine' nameX_L ?F ?v ?_ ?a ?b ?c; (case F => k_asm); (case a => kernel_rfl); (case b => kernel_rfl); (case c => kernel_rfl); (case v => first | (refine' look_of ?gg ?ge; (case gg => (repeat (first | (with_reducible exact guess_hit_l) | (with_reducible apply guess_miss_l) | (with_reducible exact guess_hit_if) | ((with_reducible show Guess (@ite _ _ _ _ _) _); (with_reducible apply guess_miss_if))))); (case ge => kernel_rfl)) | exact rfl)))))
set_option maxRecDepth 100000 in
set_option maxHeartbeats 8000000 in
theorem c_sizes1 (k size : Int) (t u : Tok) (hk : k = 1) :
    Claim 311 [.int k t, .int size u] 1 (RetL (szs 1 size)) := by
  refine gate_out ?_
  simp (disch := (k_dflt (
  intro prog w p loose mean mg mb dp un gd cn cs a ccd cl outer A₀ base h₀ L mm news s Q E B F X N T hk hdp hun hret
  (refine wpAny_call ?_; (k_dflt cell_enter); (try ((rename Fr _ _ _ _ => F8); (first | (have F9 := Fr_as F8 (m' := fun y9 => List.lookup y9 [(Str.ofString "size", (.int size u : Value)), (Str.ofString "kind", (.int k t : Value))]) rfl) | (have F9 := Fr_as F8 (m' := fun y9 => List.lookup y9 [(Str.ofString "kind", (.int k t : Value)), (Str.ofString "size", (.int size u : Value))]) rfl)); clear F8));  k_steps; all_goals (refine' ret_L hret ?hi ?F ?NM ?hs; (case F => k_asm); (case NM => (refine' ⟨?n1, ?n2⟩; (case n1 => k_asm); (case n2 => k_mem))); (case hs => (first | (intro p9 hp9; (repeat (with_reducible refine List.mem_cons_of_mem _ ?_)); exact hp9) | kcj_all)); (case hi => (show IntsAre _ [30, 30, 30, 30, 30, 30, 30, 30, 30, 30, 30, 30, size - 360]; repeat constructor))))))) only [↓gate_true]
end
section
local macro_rules | `(tactic| walk_at "eval Name") => `(tactic| (k_here; k_dflt (first | (name_kind "local"; refine' nameX_L ?F ?v ?_ ?a ?b ?c; (case F => k_asm); (case a => kernel_rfl); (case b => kernel_rfl); (case c => kernel_rfl); (case v => first | (refine' look_of ?gg ?ge; (case gg => (repeat (first | (with_reducible exact guess_hit_l) | (with_reducible apply guess_miss_l) | (with_reducible exact guess_hit_if) | ((with_reducible show Guess (@ite _ _ _ _ _) _); (with_reducible apply guess_miss_if))))); (case ge => kernel_rfl)) | exact rfl)))))
set_option maxRecDepth 100000 in
set_option maxHeartbeats 8000000 in
theorem c_sizes2 (k size : Int) (t u : Tok) (hk : k = 2) :
    Claim 311 [.int k t, .int size u] 1 (RetL (szs 2 size)) := by
  refine gate_out ?_
  simp (disch := (k_dflt (
  intro prog w p loose mean mg mb dp un gd cn cs a ccd cl outer A₀ base h₀ L mm news s Q E B F X N T hk hdp hun hret
  (refine wpAny_call ?_; (k_dflt cell_enter); (try ((rename Fr _ _ _ _ => F8); (first | (have F9 := Fr_as F8 (m' := fun y9 => List.lookup y9 [(Str.ofString "size", (.int size u : Value)), (Str.ofString "kind", (.int k t : Value))]) rfl) | (have F9 := Fr_as F8 (m' := fun y9 => List.lookup y9 [(Str.ofString "kind", (.int k t : Value)), (Str.ofString "size", (.int size u : Value))]) rfl)); clear F8));  k_steps; all_goals (refine' ret_L hret ?hi ?F ?NM ?hs; (case F => k_asm); (case NM => (refine' ⟨?n1, ?n2⟩; (case n1 => k_asm); (case n2 => k_mem))); (case hs => (first | (intro p9 hp9; (repeat (with_reducible refine List.mem_cons_of_mem _ ?_)); exact hp9) | kcj_all)); (case hi => (show IntsAre _ [31, size - 337, 31, 30, 31, 30, 31, 31, 30, 31, 30, 31]; repeat constructor))))))) only [↓gate_true]
end
section
local macro_rules | `(tactic| walk_at "pad") => `(tactic| fail)
local macro_rules | `(tactic| walk_at "eval Name") => `(tactic| (k_here; k_dflt (first | (name_kind "local"; refine' nameX_L ?F ?v ?_ ?a ?b ?c; (case F => k_asm); (case a => kernel_rfl); (case b => kernel_rfl); (case c => kernel_rfl); (case v => first | (refine' look_of ?gg ?ge; (case gg => (repeat (first | (with_reducible exact guess_hit_l) | (with_reducible apply guess_miss_l) | (with_reducible exact guess_hit_if) | ((with_reducible show Guess (@ite _ _ _ _ _) _); (with_reducible apply guess_miss_if))))); (case ge => kernel_rfl)) | exact rfl)) | (name_kind "globalImplicit"; refine' nameX_B ?F ?X ?T ?e ?v ?n ?_ ?a ?b ?c; (case F => k_asm); (case X => k_asm); (case T => k_asm); (case e => with_reducible (first | exact gb_len _)); (case v => with_reducible (first | exact bb_len)); (case a => kernel_rfl); (case b => kernel_rfl); (case n => decide); (case c => kernel_rfl)))))
set_option maxRecDepth 100000 in
set_option maxHeartbeats 8000000 in
theorem c_year (y : Int) (t : Tok) :
    Claim 330 [.int y t] 1 (RetV fun t => .int (leapS y) t) := by
  refine gate_out ?_
  simp (disch := (k_dflt (
  intro prog w p loose mean mg mb dp un gd cn cs a ccd cl outer A₀ base h₀ L mm news s Q E B F X N T hk hdp hun hret
  (refine wpAny_call ?_; k_dflt (refine' code_defC ?k1 ?k2 ?k3 ?k4 ?k5 ?kA ?kF ?kK ?k6 ?k7 ?k8 ?k9 ?kB ?kD ?_ ?c2 ?c3 ?c4; (case kA => exact rfl); (case kF => exact rfl); (case kK => assumption); (case k1 => k_asm); (case k2 => k_asm); (case k3 => k_asm); (case k4 => k_asm); (case k5 => k_asm); (case k6 => k_is); (case k7 => k_is); (case k8 => ktr_room); (case k9 => exact BindsTo.of_eq rfl); (case kB => exact rfl); (case kD => decide +kernel); (case c2 => exact rfl); (case c3 => exact rfl); (case c4 => exact rfl); k_whole; intro g' L' h' tk' cells' FG' F' N' Y' B' X' T' l1; (try k_lt l1); k_cells Y'; (try simp only [List.cons_append, List.nil_append] at N'); (try dsimp only); (try k_lift B'); (try k_fold)); (try ((rename Fr _ _ _ _ => F8); (first | (have F9 := Fr_as F8 (m' := fun y9 => List.lookup y9 [(Str.ofString "year", (.int y t : Value))]) rfl) | (have F9 := Fr_as F8 (m' := fun y9 => List.lookup y9 [(Str.ofString "year", (.int y t : Value))]) rfl)); clear F8)); (k_with "eval ListComp" => (k_here; k_dflt (refine filt_comp (f := fun k => decide (y % k = 0)) (by k_asm) (by with_unfolding_all rfl) (by decide) (by rfl) (by decide) (by rfl) (by decide) ?_))); k_steps; all_goals (refine' cb_retI hret ?e1 ?e2 ?e3; (case e2 => k_asm); (case e3 => first | k_asm | (refine' cb_drop ?cbN ?cbS; (case cbN => assumption); (case cbS => (first | (intro p9 hp9; (repeat (with_reducible refine List.mem_cons_of_mem _ ?_)); exact hp9) | kcj_all)))); (case e1 => exact leap_filt y)))))) only [↓gate_true]
end
abbrev RetNear (w : Int) : Heap → Addr → (Str → Option Value) → List (Addr × Obj) → Shared → (Value → Shared → Prop) → (Value → Shared → Prop) → Prop :=
  fun h₀ L m news s Q _ => ∀ (k : Int) (t : Tok) (h' : Heap) (tk' : Nat), -w ≤ k → k < w → Fr h₀ L h' m → News h₀ L h' news → Q (.int k t) { s with heap := h', toks := tk' }
theorem ret_near {w k : Int} {h₀ h' : Heap} {L : Addr} {m : Str → Option Value} {news : List (Addr × Obj)} {s : Shared} {Q E : Value → Shared → Prop} {t : Tok} {tk' : Nat} (hret : RetNear w h₀ L m news s Q E) (h : -w ≤ k ∧ k < w) (F : Fr h₀ L h' m) (N : News h₀ L h' news) : Q (.int k t) { s with heap := h', toks := tk' } :=
  hret k t h' tk' h.1 h.2 F N
section
local macro_rules | `(tactic| walk_at "eval Name") => `(tactic| (k_here; k_dflt (first | (name_kind "local"; refine' nameX_L ?F ?v ?_ ?a ?b ?c; (case F => k_asm); (case a => kernel_rfl); (case b => kernel_rfl); (case c => kernel_rfl); (case v => first | (refine' look_of ?gg ?ge; (case gg => (repeat (first | (with_reducible exact guess_hit_l) | (with_reducible apply guess_miss_l) | (with_reducible exact guess_hit_if) | ((with_reducible show Guess (@ite _ _ _ _ _) _); (with_reducible apply guess_miss_if))))); (case ge => kernel_rfl)) | exact rfl)) | (name_kind "globalImplicit"; refine' nameX_B ?F ?X ?T ?e ?v ?n ?_ ?a ?b ?c; (case F => k_asm); (case X => k_asm); (case T => k_asm); (case e => with_reducible (first | exact gb_len _)); (case v => with_reducible (first | exact bb_len)); (case a => kernel_rfl); (case b => kernel_rfl); (case n => decide); (case c => kernel_rfl)))))
set_option maxRecDepth 100000 in
set_option maxHeartbeats 8000000 in
theorem c_near (a : Addr) (vs : List Value) (n : Nat) (ns : List Int) (place : Int) (w : Int) (t u : Tok) (hi : IntsAre vs ns) (hl : (ns.length : Int) ≤ 100) (hp : 0 ≤ place) (hw : 0 < w) :
    Claim 290 [.ref a, .int place t, .int w u] 1 (WithL a vs n (RetNear w)) := by
  refine gate_out ?_
  simp (disch := (k_dflt (
  intro prog w p loose mean mg mb dp un gd cn cs a ccd cl outer A₀ base h₀ L mm news s Q E B F X N T hk hdp hun hret
  obtain ⟨hmem, hret⟩ := hret
  (refine wpAny_call ?_; (k_dflt cell_enter); (try ((rename Fr _ _ _ _ => F8); (first | (have F9 := Fr_as F8 (m' := fun y9 => List.lookup y9 [(Str.ofString "width", (.int w u : Value)), (Str.ofString "place", (.int place t : Value)), (Str.ofString "script", (.ref a : Value))]) rfl) | (have F9 := Fr_as F8 (m' := fun y9 => List.lookup y9 [(Str.ofString "script", (.ref a : Value)), (Str.ofString "place", (.int place t : Value)), (Str.ofString "width", (.int w u : Value))]) rfl)); clear F8));  k_steps; all_goals (refine' ret_near hret ?e1 ?e2 ?e3; (case e2 => k_asm); (case e3 => first | k_asm | (refine' cb_drop ?cbN ?cbS; (case cbN => assumption); (case cbS => (first | (intro p9 hp9; (repeat (with_reducible refine List.mem_cons_of_mem _ ?_)); exact hp9) | kcj_all)))); (case e1 => first | exact near_ok _ _ hw | exact near_okF _ _ hw)))))) only [↓gate_true]
end
theorem c_offh_thirty (r : Int) (t : Tok) (p1 q1 : Int) (h0 : 0 ≤ r ∧ r < 10631) (e1 : (offI thirty r).1 = p1) (e2 : (offI thirty r).2 = q1) :
    Claim 304 [.int r t, .ref 280] 1 (RetT2 p1 q1) := by
  subst e1; subst e2
  exact c_off_thirty r t h0
theorem c_offh_third (r : Int) (t : Tok) (p1 q1 : Int) (h0 : 0 ≤ r ∧ r < 1461) (e1 : (offI third r).1 = p1) (e2 : (offI third r).2 = q1) :
    Claim 304 [.int r t, .ref 281] 1 (RetT2 p1 q1) := by
  subst e1; subst e2
  exact c_off_third r t h0
theorem c_offh_fourth (r : Int) (t : Tok) (p1 q1 : Int) (h0 : 0 ≤ r ∧ r < 1461) (e1 : (offI fourth r).1 = p1) (e2 : (offI fourth r).2 = q1) :
    Claim 304 [.int r t, .ref 282] 1 (RetT2 p1 q1) := by
  subst e1; subst e2
  exact c_off_fourth r t h0
theorem c_offh_plain1 (r : Int) (t : Tok) (p1 q1 : Int) (h0 : 0 ≤ r ∧ r < 365) (e1 : (offI plain1 r).1 = p1) (e2 : (offI plain1 r).2 = q1) :
    Claim 304 [.int r t, .ref 283] 1 (RetT2 p1 q1) := by
  subst e1; subst e2
  exact c_off_plain1 r t h0
theorem c_offh_list (r : Int) (t : Tok) (ns : List Int) (a : Addr) (vs : List Value) (n : Nat) (p1 q1 : Int) (hi : IntsAre vs ns) (hl : (ns.length : Int) ≤ 100) (h0 : 0 ≤ r) (hs : r < ns.sum) (e1 : (offI ns r).1 = p1) (e2 : (offI ns r).2 = q1) :
    Claim 304 [.int r t, .ref a] 1 (WithL a vs n (RetT2 p1 q1)) := by
  subst e1; subst e2
  exact c_off_list r t ns a vs n hi hl h0 hs
abbrev tupR (T Ls : Addr) : Obj := { cls := .type "tuple", data := .seq #[.ref T, .ref Ls] }
abbrev RetD (a b c : Int) (ns : List Int) : Heap → Addr → (Str → Option Value) → List (Addr × Obj) → Shared → (Value → Shared → Prop) → (Value → Shared → Prop) → Prop :=
  fun h₀ L m news s Q _ => ∀ (D T Ls : Addr) (t u v : Tok) (vs : List Value) (n : Nat) (h' : Heap) (tk' : Nat), IntsAre vs ns → Fr h₀ L h' m → News h₀ L h' ((D, tupR T Ls) :: (T, tup3 a t b u c v) :: (Ls, listOf vs.toArray n) :: news) → Q (.ref D) { s with heap := h', toks := tk' }
theorem ret_D {h₀ h' : Heap} {L D T Ls : Addr} {m : Str → Option Value} {news news' : List (Addr × Obj)} {s : Shared} {Q E : Value → Shared → Prop} {t u v : Tok} {tk' : Nat} {a b c a' b' c' : Int} {ns ns' : List Int} {vs : List Value} {n : Nat}
    (hret : RetD a b c ns h₀ L m news s Q E) (e1 : a' = a) (e2 : b' = b) (e3 : c' = c) (hi : IntsAre vs ns') (e4 : ns' = ns) (F : Fr h₀ L h' m) (N : News h₀ L h' news') (m1 : (D, tupR T Ls) ∈ news') (m2 : (T, tup3 a' t b' u c' v) ∈ news') (m3 : (Ls, listOf vs.toArray n) ∈ news') (hs : ∀ p ∈ news, p ∈ news') : Q (.ref D) { s with heap := h', toks := tk' } := by
  subst e1; subst e2; subst e3; subst e4
  exact hret D T Ls t u v vs n h' tk' hi F fun p hp => by
    rcases List.mem_cons.mp hp with rfl | hp
    · exact N _ m1
    · rcases List.mem_cons.mp hp with rfl | hp
      · exact N _ m2
      · rcases List.mem_cons.mp hp with rfl | hp
        · exact N _ m3
        · exact N p (hs p hp)
section
local macro_rules | `(tactic| walk_at "call ref") => `(tactic| (k_here; (with_reducible show wpAny _ _ (PySem.call (Value.ref 304) [Value.int _ _, Value.ref 280]) _ _ _); k_dflt (refine' use (c_off_thirty _ _ ?h0) ?k1 ?k2 ?k3 ?k4 ?k5 ?kK ?kd ?ku ?_; (case k1 => k_asm); (case k2 => k_asm); (case k3 => k_asm); (case k4 => k_asm); (case k5 => k_asm); (case kK => first | exact rfl | assumption); (case kd => first | ((with_reducible refine' room_dp ?rdh ?rdk); (case rdh => with_reducible assumption); (case rdk => decide)) | ktr_room); (case ku => first | ((with_reducible refine' room_un ?ruh ?ruk); (case ruh => with_reducible assumption); (case ruk => decide)) | ktr_units); (case h0 => (law_clear; first | omega | ((try simp only [decide_eq_true_eq, decide_eq_false_iff_not, gj, ij, cj, jj, aj, sj, leapS] at *); first | done | omega))); intro D9 t9 u9 h9 tk9 F9 N9; (try dsimp only); (try k_fold))))
local macro_rules | `(tactic| walk_at "call ref") => `(tactic| (k_here; (with_reducible show wpAny _ _ (PySem.call (Value.ref 304) [Value.int _ _, Value.ref 281]) _ _ _); k_dflt (refine' use (c_off_third _ _ ?h0) ?k1 ?k2 ?k3 ?k4 ?k5 ?kK ?kd ?ku ?_; (case k1 => k_asm); (case k2 => k_asm); (case k3 => k_asm); (case k4 => k_asm); (case k5 => k_asm); (case kK => first | exact rfl | assumption); (case kd => first | ((with_reducible refine' room_dp ?rdh ?rdk); (case rdh => with_reducible assumption); (case rdk => decide)) | ktr_room); (case ku => first | ((with_reducible refine' room_un ?ruh ?ruk); (case ruh => with_reducible assumption); (case ruk => decide)) | ktr_units); (case h0 => (law_clear; first | omega | ((try simp only [decide_eq_true_eq, decide_eq_false_iff_not, gj, ij, cj, jj, aj, sj, leapS] at *); first | done | omega))); intro D9 t9 u9 h9 tk9 F9 N9; (try dsimp only); (try k_fold))))
local macro_rules | `(tactic| walk_at "call ref") => `(tactic| (k_here; (with_reducible show wpAny _ _ (PySem.call (Value.ref 304) [Value.int _ _, Value.ref 282]) _ _ _); k_dflt (refine' use (c_off_fourth _ _ ?h0) ?k1 ?k2 ?k3 ?k4 ?k5 ?kK ?kd ?ku ?_; (case k1 => k_asm); (case k2 => k_asm); (case k3 => k_asm); (case k4 => k_asm); (case k5 => k_asm); (case kK => first | exact rfl | assumption); (case kd => first | ((with_reducible refine' room_dp ?rdh ?rdk); (case rdh => with_reducible assumption); (case rdk => decide)) | ktr_room); (case ku => first | ((with_reducible refine' room_un ?ruh ?ruk); (case ruh => with_reducible assumption); (case ruk => decide)) | ktr_units); (case h0 => (law_clear; first | omega | ((try simp only [decide_eq_true_eq, decide_eq_false_iff_not, gj, ij, cj, jj, aj, sj, leapS] at *); first | done | omega))); intro D9 t9 u9 h9 tk9 F9 N9; (try dsimp only); (try k_fold))))
local macro_rules | `(tactic| walk_at "call ref") => `(tactic| (k_here; (with_reducible show wpAny _ _ (PySem.call (Value.ref 304) [Value.int _ _, Value.ref 283]) _ _ _); k_dflt (refine' use (c_off_plain1 _ _ ?h0) ?k1 ?k2 ?k3 ?k4 ?k5 ?kK ?kd ?ku ?_; (case k1 => k_asm); (case k2 => k_asm); (case k3 => k_asm); (case k4 => k_asm); (case k5 => k_asm); (case kK => first | exact rfl | assumption); (case kd => first | ((with_reducible refine' room_dp ?rdh ?rdk); (case rdh => with_reducible assumption); (case rdk => decide)) | ktr_room); (case ku => first | ((with_reducible refine' room_un ?ruh ?ruk); (case ruh => with_reducible assumption); (case ruk => decide)) | ktr_units); (case h0 => (law_clear; first | omega | ((try simp only [decide_eq_true_eq, decide_eq_false_iff_not, gj, ij, cj, jj, aj, sj, leapS] at *); first | done | omega))); intro D9 t9 u9 h9 tk9 F9 N9; (try dsimp only); (try k_fold))))
local macro_rules | `(tactic| walk_at "call ref") => `(tactic| (k_here; (with_reducible show wpAny _ _ (PySem.call (Value.ref 304) [Value.int _ _, Value.ref _]) _ _ _); k_dflt (refine' use (c_off_list _ _ _ _ _ _ ?hi ?hl ?h0 ?hs) ?k1 ?k2 ?k3 ?k4 ?k5 ?kK ?kd ?ku ?_; (case k1 => k_asm); (case k2 => k_asm); (case k3 => k_asm); (case k4 => k_asm); (case k5 => k_asm); (case kK => first | exact rfl | assumption); (case kd => first | ((with_reducible refine' room_dp ?rdh ?rdk); (case rdh => with_reducible assumption); (case rdk => decide)) | ktr_room); (case ku => first | ((with_reducible refine' room_un ?ruh ?ruk); (case ruh => with_reducible assumption); (case ruk => decide)) | ktr_units); (case hi => assumption); (case hl => (law_clear; first | omega | ((try simp only [decide_eq_true_eq, decide_eq_false_iff_not, gj, ij, cj, jj, aj, sj, leapS] at *); first | done | omega))); (case h0 => (law_clear; first | omega | ((try simp only [decide_eq_true_eq, decide_eq_false_iff_not, gj, ij, cj, jj, aj, sj, leapS] at *); first | done | omega))); (case hs => (law_clear; first | omega | ((try simp only [decide_eq_true_eq, decide_eq_false_iff_not, gj, ij, cj, jj, aj, sj, leapS] at *); first | done | omega))); rotate_right; refine' ⟨?mL, ?_⟩; (case mL => k_mem); intro D9 t9 u9 h9 tk9 F9 N9; (try dsimp only); (try k_fold))))
local macro_rules | `(tactic| walk_at "call ref") => `(tactic| (k_here; (with_reducible show wpAny _ _ (PySem.call (Value.ref 311) [Value.int 0 _, Value.int _ _]) _ _ _); k_dflt (refine' use (c_sizes0 _ _ _ _ ?hk) ?k1 ?k2 ?k3 ?k4 ?k5 ?kK ?kd ?ku ?_; (case k1 => k_asm); (case k2 => k_asm); (case k3 => k_asm); (case k4 => k_asm); (case k5 => k_asm); (case kK => first | exact rfl | assumption); (case kd => first | ((with_reducible refine' room_dp ?rdh ?rdk); (case rdh => with_reducible assumption); (case rdk => decide)) | ktr_room); (case ku => first | ((with_reducible refine' room_un ?ruh ?ruk); (case ruh => with_reducible assumption); (case ruk => decide)) | ktr_units); (case hk => (law_clear; first | omega | ((try simp only [decide_eq_true_eq, decide_eq_false_iff_not, gj, ij, cj, jj, aj, sj, leapS] at *); first | done | omega))); intro D9 vs9 n9 h9 tk9 hi9 F9 N9; (try dsimp only); (try k_fold))))
local macro_rules | `(tactic| walk_at "call ref") => `(tactic| (k_here; (with_reducible show wpAny _ _ (PySem.call (Value.ref 311) [Value.int 1 _, Value.int _ _]) _ _ _); k_dflt (refine' use (c_sizes1 _ _ _ _ ?hk) ?k1 ?k2 ?k3 ?k4 ?k5 ?kK ?kd ?ku ?_; (case k1 => k_asm); (case k2 => k_asm); (case k3 => k_asm); (case k4 => k_asm); (case k5 => k_asm); (case kK => first | exact rfl | assumption); (case kd => first | ((with_reducible refine' room_dp ?rdh ?rdk); (case rdh => with_reducible assumption); (case rdk => decide)) | ktr_room); (case ku => first | ((with_reducible refine' room_un ?ruh ?ruk); (case ruh => with_reducible assumption); (case ruk => decide)) | ktr_units); (case hk => (law_clear; first | omega | ((try simp only [decide_eq_true_eq, decide_eq_false_iff_not, gj, ij, cj, jj, aj, sj, leapS] at *); first | done | omega))); intro D9 vs9 n9 h9 tk9 hi9 F9 N9; (try dsimp only); (try k_fold))))
local macro_rules | `(tactic| walk_at "call ref") => `(tactic| (k_here; (with_reducible show wpAny _ _ (PySem.call (Value.ref 311) [Value.int 2 _, Value.int _ _]) _ _ _); k_dflt (refine' use (c_sizes2 _ _ _ _ ?hk) ?k1 ?k2 ?k3 ?k4 ?k5 ?kK ?kd ?ku ?_; (case k1 => k_asm); (case k2 => k_asm); (case k3 => k_asm); (case k4 => k_asm); (case k5 => k_asm); (case kK => first | exact rfl | assumption); (case kd => first | ((with_reducible refine' room_dp ?rdh ?rdk); (case rdh => with_reducible assumption); (case rdk => decide)) | ktr_room); (case ku => first | ((with_reducible refine' room_un ?ruh ?ruk); (case ruh => with_reducible assumption); (case ruk => decide)) | ktr_units); (case hk => (law_clear; first | omega | ((try simp only [decide_eq_true_eq, decide_eq_false_iff_not, gj, ij, cj, jj, aj, sj, leapS] at *); first | done | omega))); intro D9 vs9 n9 h9 tk9 hi9 F9 N9; (try dsimp only); (try k_fold))))
local macro_rules | `(tactic| walk_at "call ref") => `(tactic| (k_here; (with_reducible show wpAny _ _ (PySem.call (Value.ref 304) [Value.int _ _, Value.ref 280]) _ _ _); k_dflt (refine' use (c_offh_thirty _ _ _ _ ?h0 ?e1 ?e2) ?k1 ?k2 ?k3 ?k4 ?k5 ?kK ?kd ?ku ?_; (case k1 => k_asm); (case k2 => k_asm); (case k3 => k_asm); (case k4 => k_asm); (case k5 => k_asm); (case kK => first | exact rfl | assumption); (case kd => first | ((with_reducible refine' room_dp ?rdh ?rdk); (case rdh => with_reducible assumption); (case rdk => decide)) | ktr_room); (case ku => first | ((with_reducible refine' room_un ?ruh ?ruk); (case ruh => with_reducible assumption); (case ruk => decide)) | ktr_units); (case h0 => (law_clear; first | omega | ((try simp only [decide_eq_true_eq, decide_eq_false_iff_not, gj, ij, cj, jj, aj, sj, leapS] at *); first | done | omega))); (case e1 => first | exact Hint.eq (by with_reducible assumption) | exact rfl); (case e2 => first | exact Hint.eq (by with_reducible assumption) | exact rfl); intro D9 t9 u9 h9 tk9 F9 N9; (try dsimp only); (try k_fold))))
local macro_rules | `(tactic| walk_at "call ref") => `(tactic| (k_here; (with_reducible show wpAny _ _ (PySem.call (Value.ref 304) [Value.int _ _, Value.ref 281]) _ _ _); k_dflt (refine' use (c_offh_third _ _ _ _ ?h0 ?e1 ?e2) ?k1 ?k2 ?k3 ?k4 ?k5 ?kK ?kd ?ku ?_; (case k1 => k_asm); (case k2 => k_asm); (case k3 => k_asm); (case k4 => k_asm); (case k5 => k_asm); (case kK => first | exact rfl | assumption); (case kd => first | ((with_reducible refine' room_dp ?rdh ?rdk); (case rdh => with_reducible assumption); (case rdk => decide)) | ktr_room); (case ku => first | ((with_reducible refine' room_un ?ruh ?ruk); (case ruh => with_reducible assumption); (case ruk => decide)) | ktr_units); (case h0 => (law_clear; first | omega | ((try simp only [decide_eq_true_eq, decide_eq_false_iff_not, gj, ij, cj, jj, aj, sj, leapS] at *); first | done | omega))); (case e1 => first | exact Hint.eq (by with_reducible assumption) | exact rfl); (case e2 => first | exact Hint.eq (by with_reducible assumption) | exact rfl); intro D9 t9 u9 h9 tk9 F9 N9; (try dsimp only); (try k_fold))))
local macro_rules | `(tactic| walk_at "call ref") => `(tactic| (k_here; (with_reducible show wpAny _ _ (PySem.call (Value.ref 304) [Value.int _ _, Value.ref 282]) _ _ _); k_dflt (refine' use (c_offh_fourth _ _ _ _ ?h0 ?e1 ?e2) ?k1 ?k2 ?k3 ?k4 ?k5 ?kK ?kd ?ku ?_; (case k1 => k_asm); (case k2 => k_asm); (case k3 => k_asm); (case k4 => k_asm); (case k5 => k_asm); (case kK => first | exact rfl | assumption); (case kd => first | ((with_reducible refine' room_dp ?rdh ?rdk); (case rdh => with_reducible assumption); (case rdk => decide)) | ktr_room); (case ku => first | ((with_reducible refine' room_un ?ruh ?ruk); (case ruh => with_reducible assumption); (case ruk => decide)) | ktr_units); (case h0 => (law_clear; first | omega | ((try simp only [decide_eq_true_eq, decide_eq_false_iff_not, gj, ij, cj, jj, aj, sj, leapS] at *); first | done | omega))); (case e1 => first | exact Hint.eq (by with_reducible assumption) | exact rfl); (case e2 => first | exact Hint.eq (by with_reducible assumption) | exact rfl); intro D9 t9 u9 h9 tk9 F9 N9; (try dsimp only); (try k_fold))))
local macro_rules | `(tactic| walk_at "call ref") => `(tactic| (k_here; (with_reducible show wpAny _ _ (PySem.call (Value.ref 304) [Value.int _ _, Value.ref 283]) _ _ _); k_dflt (refine' use (c_offh_plain1 _ _ _ _ ?h0 ?e1 ?e2) ?k1 ?k2 ?k3 ?k4 ?k5 ?kK ?kd ?ku ?_; (case k1 => k_asm); (case k2 => k_asm); (case k3 => k_asm); (case k4 => k_asm); (case k5 => k_asm); (case kK => first | exact rfl | assumption); (case kd => first | ((with_reducible refine' room_dp ?rdh ?rdk); (case rdh => with_reducible assumption); (case rdk => decide)) | ktr_room); (case ku => first | ((with_reducible refine' room_un ?ruh ?ruk); (case ruh => with_reducible assumption); (case ruk => decide)) | ktr_units); (case h0 => (law_clear; first | omega | ((try simp only [decide_eq_true_eq, decide_eq_false_iff_not, gj, ij, cj, jj, aj, sj, leapS] at *); first | done | omega))); (case e1 => first | exact Hint.eq (by with_reducible assumption) | exact rfl); (case e2 => first | exact Hint.eq (by with_reducible assumption) | exact rfl); intro D9 t9 u9 h9 tk9 F9 N9; (try dsimp only); (try k_fold))))
local macro_rules | `(tactic| walk_at "call ref") => `(tactic| (k_here; (with_reducible show wpAny _ _ (PySem.call (Value.ref 304) [Value.int _ _, Value.ref _]) _ _ _); k_dflt (refine' use (c_offh_list _ _ _ _ _ _ _ _ ?hi ?hl ?h0 ?hs ?e1 ?e2) ?k1 ?k2 ?k3 ?k4 ?k5 ?kK ?kd ?ku ?_; (case k1 => k_asm); (case k2 => k_asm); (case k3 => k_asm); (case k4 => k_asm); (case k5 => k_asm); (case kK => first | exact rfl | assumption); (case kd => first | ((with_reducible refine' room_dp ?rdh ?rdk); (case rdh => with_reducible assumption); (case rdk => decide)) | ktr_room); (case ku => first | ((with_reducible refine' room_un ?ruh ?ruk); (case ruh => with_reducible assumption); (case ruk => decide)) | ktr_units); (case hi => assumption); (case hl => first | exact szs_len _ _ | omega); (case h0 => (law_clear; first | omega | ((try simp only [decide_eq_true_eq, decide_eq_false_iff_not, gj, ij, cj, jj, aj, sj, leapS] at *); first | done | omega))); (case hs => first | assumption | (rw [szs_sum]; omega) | (rw [szs_sum]; law_clear; (try simp only [decide_eq_true_eq, decide_eq_false_iff_not, ge_iff_le, Int.not_le] at *); omega)); (case e1 => first | exact Hint.eq (by with_reducible assumption) | exact rfl); (case e2 => first | exact Hint.eq (by with_reducible assumption) | exact rfl); rotate_right; refine' ⟨?mL, ?_⟩; (case mL => k_mem); intro D9 t9 u9 h9 tk9 F9 N9; (try dsimp only); (try k_fold))))
local macro_rules | `(tactic| walk_at "eval Name") => `(tactic| (k_here; k_dflt (first | (name_kind "local"; refine' nameX_L ?F ?v ?_ ?a ?b ?c; (case F => k_asm); (case a => kernel_rfl); (case b => kernel_rfl); (case c => kernel_rfl); (case v => first | (refine' look_of ?gg ?ge; (case gg => (repeat (first | (with_reducible exact guess_hit_l) | (with_reducible apply guess_miss_l) | (with_reducible exact guess_hit_if) | ((with_reducible show Guess (@ite _ _ _ _ _) _); (with_reducible apply guess_miss_if))))); (case ge => kernel_rfl)) | exact rfl)) | (name_kind "globalImplicit"; refine' nameX_K ?F ?X ?T ?e ?_ ?a ?b ?c; (case F => k_asm); (case X => k_asm); (case T => k_asm); (case e => with_reducible (first | exact gn_law_off _ | exact gn_law_sizes _)); (case a => kernel_rfl); (case b => kernel_rfl); (case c => kernel_rfl)) | (name_kind "globalImplicit"; refine' nameX_B ?F ?X ?T ?e ?v ?n ?_ ?a ?b ?c; (case F => k_asm); (case X => k_asm); (case T => k_asm); (case e => with_reducible (first | exact gb_divmod _ | exact gb_sum _ | exact gb_len _)); (case v => with_reducible (first | exact bb_divmod | exact bb_sum | exact bb_len)); (case a => kernel_rfl); (case b => kernel_rfl); (case n => decide); (case c => kernel_rfl)))))
set_option maxRecDepth 100000 in
set_option maxHeartbeats 8000000 in
theorem c_date_isl (day : Int) (t u v z : Tok) (hd : -10000000000 < day ∧ day < 10000000000) :
    Claim 318 [.int day t, .int 1948440 u, .int 1 v, .ref 280, .int 0 z] 2 (RetD (islY day) (islM day) (islD day) (szs 0 (islS day))) := by
  refine gate_out ?_
  simp (disch := (k_dflt (
  intro prog w p loose mean mg mb dp un gd cn cs a ccd cl outer A₀ base h₀ L mm news s Q E B F X N T hk hdp hun hret
  obtain ⟨q1, r1, p1, R1, S1, m1, d1, x1, x2, x3, x4, x5, x6, x7, y1, y2, y3, y4, b1, b2, b3, b4, b5, b6, b7⟩ := date_gen 1948440 1 thirty 0 day (sum := 10631) (len := 30) (by decide +kernel) (by decide +kernel) (by decide +kernel)
  have z1 : islY day = 1 + q1 * 30 + p1 := y1
  have z2 : islS day = S1 := y2
  have z3 : islM day = m1 + 1 := y3
  have z4 : islD day = d1 + 1 := y4
  rw [z1, z2, z3, z4] at hret
  have e1 : Hint ((day - 1948440) / 10631) q1 := ⟨x1⟩
  have e2 : Hint ((day - 1948440) % 10631) r1 := ⟨x2⟩
  have e3 : Hint ((offI thirty r1).1) p1 := ⟨x3⟩
  have e4 : Hint ((offI thirty r1).2) R1 := ⟨x4⟩
  have e5 : Hint (thirty.getD p1.toNat 0) S1 := ⟨x5⟩
  have e6 : Hint ((offI (szs 0 S1) R1).1) m1 := ⟨x6⟩
  have e7 : Hint ((offI (szs 0 S1) R1).2) d1 := ⟨x7⟩
  clear x1 x2 x3 x4 x5 x6 x7 y1 y2 y3 y4 z1 z2 z3 z4
  (refine wpAny_call ?_; (k_dflt cell_enter); (try ((rename Fr _ _ _ _ => F8); (first | (have F9 := Fr_as F8 (m' := fun y9 => List.lookup y9 [(Str.ofString "kind", (.int 0 z : Value)), (Str.ofString "cycle", (.ref 280 : Value)), (Str.ofString "year", (.int 1 v : Value)), (Str.ofString "first", (.int 1948440 u : Value)), (Str.ofString "day", (.int day t : Value))]) rfl) | (have F9 := Fr_as F8 (m' := fun y9 => List.lookup y9 [(Str.ofString "day", (.int day t : Value)), (Str.ofString "first", (.int 1948440 u : Value)), (Str.ofString "year", (.int 1 v : Value)), (Str.ofString "cycle", (.ref 280 : Value)), (Str.ofString "kind", (.int 0 z : Value))]) rfl)); clear F8));  k_steps; all_goals (refine' ret_D hret ?e1 ?e2 ?e3 ?hi ?e4 ?F ?N ?m1 ?m2 ?m3 ?hs; (case F => k_asm); (case N => k_asm); (case m1 => k_mem); (case m2 => k_mem); (case m3 => k_mem); (case hi => assumption); (case e4 => exact rfl); (case hs => (first | (intro p9 hp9; (repeat (with_reducible refine List.mem_cons_of_mem _ ?_)); exact hp9) | kcj_all)); (case e1 => (law_clear; omega)); (case e2 => (law_clear; omega)); (case e3 => (law_clear; omega))))))) only [↓gate_true]
end
section
local macro_rules | `(tactic| walk_at "pad") => `(tactic| fail)
local macro_rules | `(tactic| walk_at "call ref") => `(tactic| (k_here; (with_reducible show wpAny _ _ (PySem.call (Value.ref 304) [Value.int _ _, Value.ref 280]) _ _ _); k_dflt (refine' use (c_off_thirty _ _ ?h0) ?k1 ?k2 ?k3 ?k4 ?k5 ?kK ?kd ?ku ?_; (case k1 => k_asm); (case k2 => k_asm); (case k3 => k_asm); (case k4 => k_asm); (case k5 => k_asm); (case kK => first | exact rfl | assumption); (case kd => first | ((with_reducible refine' room_dp ?rdh ?rdk); (case rdh => with_reducible assumption); (case rdk => decide)) | ktr_room); (case ku => first | ((with_reducible refine' room_un ?ruh ?ruk); (case ruh => with_reducible assumption); (case ruk => decide)) | ktr_units); (case h0 => (law_clear; first | omega | ((try simp only [decide_eq_true_eq, decide_eq_false_iff_not, gj, ij, cj, jj, aj, sj, leapS] at *); first | done | omega))); intro D9 t9 u9 h9 tk9 F9 N9; (try dsimp only); (try k_fold))))
local macro_rules | `(tactic| walk_at "call ref") => `(tactic| (k_here; (with_reducible show wpAny _ _ (PySem.call (Value.ref 304) [Value.int _ _, Value.ref 281]) _ _ _); k_dflt (refine' use (c_off_third _ _ ?h0) ?k1 ?k2 ?k3 ?k4 ?k5 ?kK ?kd ?ku ?_; (case k1 => k_asm); (case k2 => k_asm); (case k3 => k_asm); (case k4 => k_asm); (case k5 => k_asm); (case kK => first | exact rfl | assumption); (case kd => first | ((with_reducible refine' room_dp ?rdh ?rdk); (case rdh => with_reducible assumption); (case rdk => decide)) | ktr_room); (case ku => first | ((with_reducible refine' room_un ?ruh ?ruk); (case ruh => with_reducible assumption); (case ruk => decide)) | ktr_units); (case h0 => (law_clear; first | omega | ((try simp only [decide_eq_true_eq, decide_eq_false_iff_not, gj, ij, cj, jj, aj, sj, leapS] at *); first | done | omega))); intro D9 t9 u9 h9 tk9 F9 N9; (try dsimp only); (try k_fold))))
local macro_rules | `(tactic| walk_at "call ref") => `(tactic| (k_here; (with_reducible show wpAny _ _ (PySem.call (Value.ref 304) [Value.int _ _, Value.ref 282]) _ _ _); k_dflt (refine' use (c_off_fourth _ _ ?h0) ?k1 ?k2 ?k3 ?k4 ?k5 ?kK ?kd ?ku ?_; (case k1 => k_asm); (case k2 => k_asm); (case k3 => k_asm); (case k4 => k_asm); (case k5 => k_asm); (case kK => first | exact rfl | assumption); (case kd => first | ((with_reducible refine' room_dp ?rdh ?rdk); (case rdh => with_reducible assumption); (case rdk => decide)) | ktr_room); (case ku => first | ((with_reducible refine' room_un ?ruh ?ruk); (case ruh => with_reducible assumption); (case ruk => decide)) | ktr_units); (case h0 => (law_clear; first | omega | ((try simp only [decide_eq_true_eq, decide_eq_false_iff_not, gj, ij, cj, jj, aj, sj, leapS] at *); first | done | omega))); intro D9 t9 u9 h9 tk9 F9 N9; (try dsimp only); (try k_fold))))
local macro_rules | `(tactic| walk_at "call ref") => `(tactic| (k_here; (with_reducible show wpAny _ _ (PySem.call (Value.ref 304) [Value.int _ _, Value.ref 283]) _ _ _); k_dflt (refine' use (c_off_plain1 _ _ ?h0) ?k1 ?k2 ?k3 ?k4 ?k5 ?kK ?kd ?ku ?_; (case k1 => k_asm); (case k2 => k_asm); (case k3 => k_asm); (case k4 => k_asm); (case k5 => k_asm); (case kK => first | exact rfl | assumption); (case kd => first | ((with_reducible refine' room_dp ?rdh ?rdk); (case rdh => with_reducible assumption); (case rdk => decide)) | ktr_room); (case ku => first | ((with_reducible refine' room_un ?ruh ?ruk); (case ruh => with_reducible assumption); (case ruk => decide)) | ktr_units); (case h0 => (law_clear; first | omega | ((try simp only [decide_eq_true_eq, decide_eq_false_iff_not, gj, ij, cj, jj, aj, sj, leapS] at *); first | done | omega))); intro D9 t9 u9 h9 tk9 F9 N9; (try dsimp only); (try k_fold))))
local macro_rules | `(tactic| walk_at "call ref") => `(tactic| (k_here; (with_reducible show wpAny _ _ (PySem.call (Value.ref 304) [Value.int _ _, Value.ref _]) _ _ _); k_dflt (refine' use (c_off_list _ _ _ _ _ _ ?hi ?hl ?h0 ?hs) ?k1 ?k2 ?k3 ?k4 ?k5 ?kK ?kd ?ku ?_; (case k1 => k_asm); (case k2 => k_asm); (case k3 => k_asm); (case k4 => k_asm); (case k5 => k_asm); (case kK => first | exact rfl | assumption); (case kd => first | ((with_reducible refine' room_dp ?rdh ?rdk); (case rdh => with_reducible assumption); (case rdk => decide)) | ktr_room); (case ku => first | ((with_reducible refine' room_un ?ruh ?ruk); (case ruh => with_reducible assumption); (case ruk => decide)) | ktr_units); (case hi => assumption); (case hl => (law_clear; first | omega | ((try simp only [decide_eq_true_eq, decide_eq_false_iff_not, gj, ij, cj, jj, aj, sj, leapS] at *); first | done | omega))); (case h0 => (law_clear; first | omega | ((try simp only [decide_eq_true_eq, decide_eq_false_iff_not, gj, ij, cj, jj, aj, sj, leapS] at *); first | done | omega))); (case hs => (law_clear; first | omega | ((try simp only [decide_eq_true_eq, decide_eq_false_iff_not, gj, ij, cj, jj, aj, sj, leapS] at *); first | done | omega))); rotate_right; refine' ⟨?mL, ?_⟩; (case mL => k_mem); intro D9 t9 u9 h9 tk9 F9 N9; (try dsimp only); (try k_fold))))
local macro_rules | `(tactic| walk_at "call ref") => `(tactic| (k_here; (with_reducible show wpAny _ _ (PySem.call (Value.ref 311) [Value.int 0 _, Value.int _ _]) _ _ _); k_dflt (refine' use (c_sizes0 _ _ _ _ ?hk) ?k1 ?k2 ?k3 ?k4 ?k5 ?kK ?kd ?ku ?_; (case k1 => k_asm); (case k2 => k_asm); (case k3 => k_asm); (case k4 => k_asm); (case k5 => k_asm); (case kK => first | exact rfl | assumption); (case kd => first | ((with_reducible refine' room_dp ?rdh ?rdk); (case rdh => with_reducible assumption); (case rdk => decide)) | ktr_room); (case ku => first | ((with_reducible refine' room_un ?ruh ?ruk); (case ruh => with_reducible assumption); (case ruk => decide)) | ktr_units); (case hk => (law_clear; first | omega | ((try simp only [decide_eq_true_eq, decide_eq_false_iff_not, gj, ij, cj, jj, aj, sj, leapS] at *); first | done | omega))); intro D9 vs9 n9 h9 tk9 hi9 F9 N9; (try dsimp only); (try k_fold))))
local macro_rules | `(tactic| walk_at "call ref") => `(tactic| (k_here; (with_reducible show wpAny _ _ (PySem.call (Value.ref 311) [Value.int 1 _, Value.int _ _]) _ _ _); k_dflt (refine' use (c_sizes1 _ _ _ _ ?hk) ?k1 ?k2 ?k3 ?k4 ?k5 ?kK ?kd ?ku ?_; (case k1 => k_asm); (case k2 => k_asm); (case k3 => k_asm); (case k4 => k_asm); (case k5 => k_asm); (case kK => first | exact rfl | assumption); (case kd => first | ((with_reducible refine' room_dp ?rdh ?rdk); (case rdh => with_reducible assumption); (case rdk => decide)) | ktr_room); (case ku => first | ((with_reducible refine' room_un ?ruh ?ruk); (case ruh => with_reducible assumption); (case ruk => decide)) | ktr_units); (case hk => (law_clear; first | omega | ((try simp only [decide_eq_true_eq, decide_eq_false_iff_not, gj, ij, cj, jj, aj, sj, leapS] at *); first | done | omega))); intro D9 vs9 n9 h9 tk9 hi9 F9 N9; (try dsimp only); (try k_fold))))
local macro_rules | `(tactic| walk_at "call ref") => `(tactic| (k_here; (with_reducible show wpAny _ _ (PySem.call (Value.ref 311) [Value.int 2 _, Value.int _ _]) _ _ _); k_dflt (refine' use (c_sizes2 _ _ _ _ ?hk) ?k1 ?k2 ?k3 ?k4 ?k5 ?kK ?kd ?ku ?_; (case k1 => k_asm); (case k2 => k_asm); (case k3 => k_asm); (case k4 => k_asm); (case k5 => k_asm); (case kK => first | exact rfl | assumption); (case kd => first | ((with_reducible refine' room_dp ?rdh ?rdk); (case rdh => with_reducible assumption); (case rdk => decide)) | ktr_room); (case ku => first | ((with_reducible refine' room_un ?ruh ?ruk); (case ruh => with_reducible assumption); (case ruk => decide)) | ktr_units); (case hk => (law_clear; first | omega | ((try simp only [decide_eq_true_eq, decide_eq_false_iff_not, gj, ij, cj, jj, aj, sj, leapS] at *); first | done | omega))); intro D9 vs9 n9 h9 tk9 hi9 F9 N9; (try dsimp only); (try k_fold))))
local macro_rules | `(tactic| walk_at "call ref") => `(tactic| (k_here; (with_reducible show wpAny _ _ (PySem.call (Value.ref 304) [Value.int _ _, Value.ref 280]) _ _ _); k_dflt (refine' use (c_offh_thirty _ _ _ _ ?h0 ?e1 ?e2) ?k1 ?k2 ?k3 ?k4 ?k5 ?kK ?kd ?ku ?_; (case k1 => k_asm); (case k2 => k_asm); (case k3 => k_asm); (case k4 => k_asm); (case k5 => k_asm); (case kK => first | exact rfl | assumption); (case kd => first | ((with_reducible refine' room_dp ?rdh ?rdk); (case rdh => with_reducible assumption); (case rdk => decide)) | ktr_room); (case ku => first | ((with_reducible refine' room_un ?ruh ?ruk); (case ruh => with_reducible assumption); (case ruk => decide)) | ktr_units); (case h0 => (law_clear; first | omega | ((try simp only [decide_eq_true_eq, decide_eq_false_iff_not, gj, ij, cj, jj, aj, sj, leapS] at *); first | done | omega))); (case e1 => first | exact Hint.eq (by with_reducible assumption) | exact rfl); (case e2 => first | exact Hint.eq (by with_reducible assumption) | exact rfl); intro D9 t9 u9 h9 tk9 F9 N9; (try dsimp only); (try k_fold))))
local macro_rules | `(tactic| walk_at "call ref") => `(tactic| (k_here; (with_reducible show wpAny _ _ (PySem.call (Value.ref 304) [Value.int _ _, Value.ref 281]) _ _ _); k_dflt (refine' use (c_offh_third _ _ _ _ ?h0 ?e1 ?e2) ?k1 ?k2 ?k3 ?k4 ?k5 ?kK ?kd ?ku ?_; (case k1 => k_asm); (case k2 => k_asm); (case k3 => k_asm); (case k4 => k_asm); (case k5 => k_asm); (case kK => first | exact rfl | assumption); (case kd => first | ((with_reducible refine' room_dp ?rdh ?rdk); (case rdh => with_reducible assumption); (case rdk => decide)) | ktr_room); (case ku => first | ((with_reducible refine' room_un ?ruh ?ruk); (case ruh => with_reducible assumption); (case ruk => decide)) | ktr_units); (case h0 => (law_clear; first | omega | ((try simp only [decide_eq_true_eq, decide_eq_false_iff_not, gj, ij, cj, jj, aj, sj, leapS] at *); first | done | omega))); (case e1 => first | exact Hint.eq (by with_reducible assumption) | exact rfl); (case e2 => first | exact Hint.eq (by with_reducible assumption) | exact rfl); intro D9 t9 u9 h9 tk9 F9 N9; (try dsimp only); (try k_fold))))
local macro_rules | `(tactic| walk_at "call ref") => `(tactic| (k_here; (with_reducible show wpAny _ _ (PySem.call (Value.ref 304) [Value.int _ _, Value.ref 282]) _ _ _); k_dflt (refine' use (c_offh_fourth _ _ _ _ ?h0 ?e1 ?e2) ?k1 ?k2 ?k3 ?k4 ?k5 ?kK ?kd ?ku ?_; (case k1 => k_asm); (case k2 => k_asm); (case k3 => k_asm); (case k4 => k_asm); (case k5 => k_asm); (case kK => first | exact rfl | assumption); (case kd => first | ((with_reducible refine' room_dp ?rdh ?rdk); (case rdh => with_reducible assumption); (case rdk => decide)) | ktr_room); (case ku => first | ((with_reducible refine' room_un ?ruh ?ruk); (case ruh => with_reducible assumption); (case ruk => decide)) | ktr_units); (case h0 => (law_clear; first | omega | ((try simp only [decide_eq_true_eq, decide_eq_false_iff_not, gj, ij, cj, jj, aj, sj, leapS] at *); first | done | omega))); (case e1 => first | exact Hint.eq (by with_reducible assumption) | exact rfl); (case e2 => first | exact Hint.eq (by with_reducible assumption) | exact rfl); intro D9 t9 u9 h9 tk9 F9 N9; (try dsimp only); (try k_fold))))
local macro_rules | `(tactic| walk_at "call ref") => `(tactic| (k_here; (with_reducible show wpAny _ _ (PySem.call (Value.ref 304) [Value.int _ _, Value.ref 283]) _ _ _); k_dflt (refine' use (c_offh_plain1 _ _ _ _ ?h0 ?e1 ?e2) ?k1 ?k2 ?k3 ?k4 ?k5 ?kK ?kd ?ku ?_; (case k1 => k_asm); (case k2 => k_asm); (case k3 => k_asm); (case k4 => k_asm); (case k5 => k_asm); (case kK => first | exact rfl | assumption); (case kd => first | ((with_reducible refine' room_dp ?rdh ?rdk); (case rdh => with_reducible assumption); (case rdk => decide)) | ktr_room); (case ku => first | ((with_reducible refine' room_un ?ruh ?ruk); (case ruh => with_reducible assumption); (case ruk => decide)) | ktr_units); (case h0 => (law_clear; first | omega | ((try simp only [decide_eq_true_eq, decide_eq_false_iff_not, gj, ij, cj, jj, aj, sj, leapS] at *); first | done | omega))); (case e1 => first | exact Hint.eq (by with_reducible assumption) | exact rfl); (case e2 => first | exact Hint.eq (by with_reducible assumption) | exact rfl); intro D9 t9 u9 h9 tk9 F9 N9; (try dsimp only); (try k_fold))))
local macro_rules | `(tactic| walk_at "call ref") => `(tactic| (k_here; (with_reducible show wpAny _ _ (PySem.call (Value.ref 304) [Value.int _ _, Value.ref _]) _ _ _); k_dflt (refine' use (c_offh_list _ _ _ _ _ _ _ _ ?hi ?hl ?h0 ?hs ?e1 ?e2) ?k1 ?k2 ?k3 ?k4 ?k5 ?kK ?kd ?ku ?_; (case k1 => k_asm); (case k2 => k_asm); (case k3 => k_asm); (case k4 => k_asm); (case k5 => k_asm); (case kK => first | exact rfl | assumption); (case kd => first | ((with_reducible refine' room_dp ?rdh ?rdk); (case rdh => with_reducible assumption); (case rdk => decide)) | ktr_room); (case ku => first | ((with_reducible refine' room_un ?ruh ?ruk); (case ruh => with_reducible assumption); (case ruk => decide)) | ktr_units); (case hi => assumption); (case hl => first | exact szs_len _ _ | omega); (case h0 => (law_clear; first | omega | ((try simp only [decide_eq_true_eq, decide_eq_false_iff_not, gj, ij, cj, jj, aj, sj, leapS] at *); first | done | omega))); (case hs => first | assumption | (rw [szs_sum]; omega) | (rw [szs_sum]; law_clear; (try simp only [decide_eq_true_eq, decide_eq_false_iff_not, ge_iff_le, Int.not_le] at *); omega)); (case e1 => first | exact Hint.eq (by with_reducible assumption) | exact rfl); (case e2 => first | exact Hint.eq (by with_reducible assumption) | exact rfl); rotate_right; refine' ⟨?mL, ?_⟩; (case mL => k_mem); intro D9 t9 u9 h9 tk9 F9 N9; (try dsimp only); (try k_fold))))
local macro_rules | `(tactic| walk_at "eval Name") => `(tactic| (k_here; k_dflt (first | (name_kind "local"; refine' nameX_L ?F ?v ?_ ?a ?b ?c; (case F => k_asm); (case a => kernel_rfl); (case b => kernel_rfl); (case c => kernel_rfl); (case v => first | (refine' look_of ?gg ?ge; (case gg => (repeat (first | (with_reducible exact guess_hit_l) | (with_reducible apply guess_miss_l) | (with_reducible exact guess_hit_if) | ((with_reducible show Guess (@ite _ _ _ _ _) _); (with_reducible apply guess_miss_if))))); (case ge => kernel_rfl)) | exact rfl)) | (name_kind "globalImplicit"; refine' nameX_K ?F ?X ?T ?e ?_ ?a ?b ?c; (case F => k_asm); (case X => k_asm); (case T => k_asm); (case e => with_reducible (first | exact gn_law_off _ | exact gn_law_sizes _)); (case a => kernel_rfl); (case b => kernel_rfl); (case c => kernel_rfl)) | (name_kind "globalImplicit"; refine' nameX_B ?F ?X ?T ?e ?v ?n ?_ ?a ?b ?c; (case F => k_asm); (case X => k_asm); (case T => k_asm); (case e => with_reducible (first | exact gb_divmod _ | exact gb_sum _ | exact gb_len _)); (case v => with_reducible (first | exact bb_divmod | exact bb_sum | exact bb_len)); (case a => kernel_rfl); (case b => kernel_rfl); (case n => decide); (case c => kernel_rfl)))))
set_option maxRecDepth 100000 in
set_option maxHeartbeats 8000000 in
theorem c_date_cop (day : Int) (t u v z : Tok) (hd : -10000000000 < day ∧ day < 10000000000) :
    Claim 318 [.int day t, .int 1825030 u, .int 1 v, .ref 281, .int 1 z] 2 (RetD (copY day) (copM day) (copD day) (szs 1 (copS day))) := by
  refine gate_out ?_
  simp (disch := (k_dflt (
  intro prog w p loose mean mg mb dp un gd cn cs a ccd cl outer A₀ base h₀ L mm news s Q E B F X N T hk hdp hun hret
  obtain ⟨q1, r1, p1, R1, S1, m1, d1, x1, x2, x3, x4, x5, x6, x7, y1, y2, y3, y4, b1, b2, b3, b4, b5, b6, b7⟩ := date_gen 1825030 1 third 1 day (sum := 1461) (len := 4) (by decide +kernel) (by decide +kernel) (by decide +kernel)
  have z1 : copY day = 1 + q1 * 4 + p1 := y1
  have z2 : copS day = S1 := y2
  have z3 : copM day = m1 + 1 := y3
  have z4 : copD day = d1 + 1 := y4
  rw [z1, z2, z3, z4] at hret
  have e1 : Hint ((day - 1825030) / 1461) q1 := ⟨x1⟩
  have e2 : Hint ((day - 1825030) % 1461) r1 := ⟨x2⟩
  have e3 : Hint ((offI third r1).1) p1 := ⟨x3⟩
  have e4 : Hint ((offI third r1).2) R1 := ⟨x4⟩
  have e5 : Hint (third.getD p1.toNat 0) S1 := ⟨x5⟩
  have e6 : Hint ((offI (szs 1 S1) R1).1) m1 := ⟨x6⟩
  have e7 : Hint ((offI (szs 1 S1) R1).2) d1 := ⟨x7⟩
  clear x1 x2 x3 x4 x5 x6 x7 y1 y2 y3 y4 z1 z2 z3 z4
  (refine wpAny_call ?_; (k_dflt cell_enter); (try ((rename Fr _ _ _ _ => F8); (first | (have F9 := Fr_as F8 (m' := fun y9 => List.lookup y9 [(Str.ofString "kind", (.int 1 z : Value)), (Str.ofString "cycle", (.ref 281 : Value)), (Str.ofString "year", (.int 1 v : Value)), (Str.ofString "first", (.int 1825030 u : Value)), (Str.ofString "day", (.int day t : Value))]) rfl) | (have F9 := Fr_as F8 (m' := fun y9 => List.lookup y9 [(Str.ofString "day", (.int day t : Value)), (Str.ofString "first", (.int 1825030 u : Value)), (Str.ofString "year", (.int 1 v : Value)), (Str.ofString "cycle", (.ref 281 : Value)), (Str.ofString "kind", (.int 1 z : Value))]) rfl)); clear F8));  k_steps; all_goals (refine' ret_D hret ?e1 ?e2 ?e3 ?hi ?e4 ?F ?N ?m1 ?m2 ?m3 ?hs; (case F => k_asm); (case N => k_asm); (case m1 => k_mem); (case m2 => k_mem); (case m3 => k_mem); (case hi => assumption); (case e4 => exact rfl); (case hs => (first | (intro p9 hp9; (repeat (with_reducible refine List.mem_cons_of_mem _ ?_)); exact hp9) | kcj_all)); (case e1 => (law_clear; omega)); (case e2 => (law_clear; omega)); (case e3 => (law_clear; omega))))))) only [↓gate_true]
end
section
local macro_rules | `(tactic| walk_at "call ref") => `(tactic| (k_here; (with_reducible show wpAny _ _ (PySem.call (Value.ref 304) [Value.int _ _, Value.ref 280]) _ _ _); k_dflt (refine' use (c_off_thirty _ _ ?h0) ?k1 ?k2 ?k3 ?k4 ?k5 ?kK ?kd ?ku ?_; (case k1 => k_asm); (case k2 => k_asm); (case k3 => k_asm); (case k4 => k_asm); (case k5 => k_asm); (case kK => first | exact rfl | assumption); (case kd => first | ((with_reducible refine' room_dp ?rdh ?rdk); (case rdh => with_reducible assumption); (case rdk => decide)) | ktr_room); (case ku => first | ((with_reducible refine' room_un ?ruh ?ruk); (case ruh => with_reducible assumption); (case ruk => decide)) | ktr_units); (case h0 => (law_clear; first | omega | ((try simp only [decide_eq_true_eq, decide_eq_false_iff_not, gj, ij, cj, jj, aj, sj, leapS] at *); first | done | omega))); intro D9 t9 u9 h9 tk9 F9 N9; (try dsimp only); (try k_fold))))
local macro_rules | `(tactic| walk_at "call ref") => `(tactic| (k_here; (with_reducible show wpAny _ _ (PySem.call (Value.ref 304) [Value.int _ _, Value.ref 281]) _ _ _); k_dflt (refine' use (c_off_third _ _ ?h0) ?k1 ?k2 ?k3 ?k4 ?k5 ?kK ?kd ?ku ?_; (case k1 => k_asm); (case k2 => k_asm); (case k3 => k_asm); (case k4 => k_asm); (case k5 => k_asm); (case kK => first | exact rfl | assumption); (case kd => first | ((with_reducible refine' room_dp ?rdh ?rdk); (case rdh => with_reducible assumption); (case rdk => decide)) | ktr_room); (case ku => first | ((with_reducible refine' room_un ?ruh ?ruk); (case ruh => with_reducible assumption); (case ruk => decide)) | ktr_units); (case h0 => (law_clear; first | omega | ((try simp only [decide_eq_true_eq, decide_eq_false_iff_not, gj, ij, cj, jj, aj, sj, leapS] at *); first | done | omega))); intro D9 t9 u9 h9 tk9 F9 N9; (try dsimp only); (try k_fold))))
local macro_rules | `(tactic| walk_at "call ref") => `(tactic| (k_here; (with_reducible show wpAny _ _ (PySem.call (Value.ref 304) [Value.int _ _, Value.ref 282]) _ _ _); k_dflt (refine' use (c_off_fourth _ _ ?h0) ?k1 ?k2 ?k3 ?k4 ?k5 ?kK ?kd ?ku ?_; (case k1 => k_asm); (case k2 => k_asm); (case k3 => k_asm); (case k4 => k_asm); (case k5 => k_asm); (case kK => first | exact rfl | assumption); (case kd => first | ((with_reducible refine' room_dp ?rdh ?rdk); (case rdh => with_reducible assumption); (case rdk => decide)) | ktr_room); (case ku => first | ((with_reducible refine' room_un ?ruh ?ruk); (case ruh => with_reducible assumption); (case ruk => decide)) | ktr_units); (case h0 => (law_clear; first | omega | ((try simp only [decide_eq_true_eq, decide_eq_false_iff_not, gj, ij, cj, jj, aj, sj, leapS] at *); first | done | omega))); intro D9 t9 u9 h9 tk9 F9 N9; (try dsimp only); (try k_fold))))
local macro_rules | `(tactic| walk_at "call ref") => `(tactic| (k_here; (with_reducible show wpAny _ _ (PySem.call (Value.ref 304) [Value.int _ _, Value.ref 283]) _ _ _); k_dflt (refine' use (c_off_plain1 _ _ ?h0) ?k1 ?k2 ?k3 ?k4 ?k5 ?kK ?kd ?ku ?_; (case k1 => k_asm); (case k2 => k_asm); (case k3 => k_asm); (case k4 => k_asm); (case k5 => k_asm); (case kK => first | exact rfl | assumption); (case kd => first | ((with_reducible refine' room_dp ?rdh ?rdk); (case rdh => with_reducible assumption); (case rdk => decide)) | ktr_room); (case ku => first | ((with_reducible refine' room_un ?ruh ?ruk); (case ruh => with_reducible assumption); (case ruk => decide)) | ktr_units); (case h0 => (law_clear; first | omega | ((try simp only [decide_eq_true_eq, decide_eq_false_iff_not, gj, ij, cj, jj, aj, sj, leapS] at *); first | done | omega))); intro D9 t9 u9 h9 tk9 F9 N9; (try dsimp only); (try k_fold))))
local macro_rules | `(tactic| walk_at "call ref") => `(tactic| (k_here; (with_reducible show wpAny _ _ (PySem.call (Value.ref 304) [Value.int _ _, Value.ref _]) _ _ _); k_dflt (refine' use (c_off_list _ _ _ _ _ _ ?hi ?hl ?h0 ?hs) ?k1 ?k2 ?k3 ?k4 ?k5 ?kK ?kd ?ku ?_; (case k1 => k_asm); (case k2 => k_asm); (case k3 => k_asm); (case k4 => k_asm); (case k5 => k_asm); (case kK => first | exact rfl | assumption); (case kd => first | ((with_reducible refine' room_dp ?rdh ?rdk); (case rdh => with_reducible assumption); (case rdk => decide)) | ktr_room); (case ku => first | ((with_reducible refine' room_un ?ruh ?ruk); (case ruh => with_reducible assumption); (case ruk => decide)) | ktr_units); (case hi => assumption); (case hl => (law_clear; first | omega | ((try simp only [decide_eq_true_eq, decide_eq_false_iff_not, gj, ij, cj, jj, aj, sj, leapS] at *); first | done | omega))); (case h0 => (law_clear; first | omega | ((try simp only [decide_eq_true_eq, decide_eq_false_iff_not, gj, ij, cj, jj, aj, sj, leapS] at *); first | done | omega))); (case hs => (law_clear; first | omega | ((try simp only [decide_eq_true_eq, decide_eq_false_iff_not, gj, ij, cj, jj, aj, sj, leapS] at *); first | done | omega))); rotate_right; refine' ⟨?mL, ?_⟩; (case mL => k_mem); intro D9 t9 u9 h9 tk9 F9 N9; (try dsimp only); (try k_fold))))
local macro_rules | `(tactic| walk_at "call ref") => `(tactic| (k_here; (with_reducible show wpAny _ _ (PySem.call (Value.ref 311) [Value.int 0 _, Value.int _ _]) _ _ _); k_dflt (refine' use (c_sizes0 _ _ _ _ ?hk) ?k1 ?k2 ?k3 ?k4 ?k5 ?kK ?kd ?ku ?_; (case k1 => k_asm); (case k2 => k_asm); (case k3 => k_asm); (case k4 => k_asm); (case k5 => k_asm); (case kK => first | exact rfl | assumption); (case kd => first | ((with_reducible refine' room_dp ?rdh ?rdk); (case rdh => with_reducible assumption); (case rdk => decide)) | ktr_room); (case ku => first | ((with_reducible refine' room_un ?ruh ?ruk); (case ruh => with_reducible assumption); (case ruk => decide)) | ktr_units); (case hk => (law_clear; first | omega | ((try simp only [decide_eq_true_eq, decide_eq_false_iff_not, gj, ij, cj, jj, aj, sj, leapS] at *); first | done | omega))); intro D9 vs9 n9 h9 tk9 hi9 F9 N9; (try dsimp only); (try k_fold))))
local macro_rules | `(tactic| walk_at "call ref") => `(tactic| (k_here; (with_reducible show wpAny _ _ (PySem.call (Value.ref 311) [Value.int 1 _, Value.int _ _]) _ _ _); k_dflt (refine' use (c_sizes1 _ _ _ _ ?hk) ?k1 ?k2 ?k3 ?k4 ?k5 ?kK ?kd ?ku ?_; (case k1 => k_asm); (case k2 => k_asm); (case k3 => k_asm); (case k4 => k_asm); (case k5 => k_asm); (case kK => first | exact rfl | assumption); (case kd => first | ((with_reducible refine' room_dp ?rdh ?rdk); (case rdh => with_reducible assumption); (case rdk => decide)) | ktr_room); (case ku => first | ((with_reducible refine' room_un ?ruh ?ruk); (case ruh => with_reducible assumption); (case ruk => decide)) | ktr_units); (case hk => (law_clear; first | omega | ((try simp only [decide_eq_true_eq, decide_eq_false_iff_not, gj, ij, cj, jj, aj, sj, leapS] at *); first | done | omega))); intro D9 vs9 n9 h9 tk9 hi9 F9 N9; (try dsimp only); (try k_fold))))
local macro_rules | `(tactic| walk_at "call ref") => `(tactic| (k_here; (with_reducible show wpAny _ _ (PySem.call (Value.ref 311) [Value.int 2 _, Value.int _ _]) _ _ _); k_dflt (refine' use (c_sizes2 _ _ _ _ ?hk) ?k1 ?k2 ?k3 ?k4 ?k5 ?kK ?kd ?ku ?_; (case k1 => k_asm); (case k2 => k_asm); (case k3 => k_asm); (case k4 => k_asm); (case k5 => k_asm); (case kK => first | exact rfl | assumption); (case kd => first | ((with_reducible refine' room_dp ?rdh ?rdk); (case rdh => with_reducible assumption); (case rdk => decide)) | ktr_room); (case ku => first | ((with_reducible refine' room_un ?ruh ?ruk); (case ruh => with_reducible assumption); (case ruk => decide)) | ktr_units); (case hk => (law_clear; first | omega | ((try simp only [decide_eq_true_eq, decide_eq_false_iff_not, gj, ij, cj, jj, aj, sj, leapS] at *); first | done | omega))); intro D9 vs9 n9 h9 tk9 hi9 F9 N9; (try dsimp only); (try k_fold))))
local macro_rules | `(tactic| walk_at "call ref") => `(tactic| (k_here; (with_reducible show wpAny _ _ (PySem.call (Value.ref 304) [Value.int _ _, Value.ref 280]) _ _ _); k_dflt (refine' use (c_offh_thirty _ _ _ _ ?h0 ?e1 ?e2) ?k1 ?k2 ?k3 ?k4 ?k5 ?kK ?kd ?ku ?_; (case k1 => k_asm); (case k2 => k_asm); (case k3 => k_asm); (case k4 => k_asm); (case k5 => k_asm); (case kK => first | exact rfl | assumption); (case kd => first | ((with_reducible refine' room_dp ?rdh ?rdk); (case rdh => with_reducible assumption); (case rdk => decide)) | ktr_room); (case ku => first | ((with_reducible refine' room_un ?ruh ?ruk); (case ruh => with_reducible assumption); (case ruk => decide)) | ktr_units); (case h0 => (law_clear; first | omega | ((try simp only [decide_eq_true_eq, decide_eq_false_iff_not, gj, ij, cj, jj, aj, sj, leapS] at *); first | done | omega))); (case e1 => first | exact Hint.eq (by with_reducible assumption) | exact rfl); (case e2 => first | exact Hint.eq (by with_reducible assumption) | exact rfl); intro D9 t9 u9 h9 tk9 F9 N9; (try dsimp only); (try k_fold))))
local macro_rules | `(tactic| walk_at "call ref") => `(tactic| (k_here; (with_reducible show wpAny _ _ (PySem.call (Value.ref 304) [Value.int _ _, Value.ref 281]) _ _ _); k_dflt (refine' use (c_offh_third _ _ _ _ ?h0 ?e1 ?e2) ?k1 ?k2 ?k3 ?k4 ?k5 ?kK ?kd ?ku ?_; (case k1 => k_asm); (case k2 => k_asm); (case k3 => k_asm); (case k4 => k_asm); (case k5 => k_asm); (case kK => first | exact rfl | assumption); (case kd => first | ((with_reducible refine' room_dp ?rdh ?rdk); (case rdh => with_reducible assumption); (case rdk => decide)) | ktr_room); (case ku => first | ((with_reducible refine' room_un ?ruh ?ruk); (case ruh => with_reducible assumption); (case ruk => decide)) | ktr_units); (case h0 => (law_clear; first | omega | ((try simp only [decide_eq_true_eq, decide_eq_false_iff_not, gj, ij, cj, jj, aj, sj, leapS] at *); first | done | omega))); (case e1 => first | exact Hint.eq (by with_reducible assumption) | exact rfl); (case e2 => first | exact Hint.eq (by with_reducible assumption) | exact rfl); intro D9 t9 u9 h9 tk9 F9 N9; (try dsimp only); (try k_fold))))
local macro_rules | `(tactic| walk_at "call ref") => `(tactic| (k_here; (with_reducible show wpAny _ _ (PySem.call (Value.ref 304) [Value.int _ _, Value.ref 282]) _ _ _); k_dflt (refine' use (c_offh_fourth _ _ _ _ ?h0 ?e1 ?e2) ?k1 ?k2 ?k3 ?k4 ?k5 ?kK ?kd ?ku ?_; (case k1 => k_asm); (case k2 => k_asm); (case k3 => k_asm); (case k4 => k_asm); (case k5 => k_asm); (case kK => first | exact rfl | assumption); (case kd => first | ((with_reducible refine' room_dp ?rdh ?rdk); (case rdh => with_reducible assumption); (case rdk => decide)) | ktr_room); (case ku => first | ((with_reducible refine' room_un ?ruh ?ruk); (case ruh => with_reducible assumption); (case ruk => decide)) | ktr_units); (case h0 => (law_clear; first | omega | ((try simp only [decide_eq_true_eq, decide_eq_false_iff_not, gj, ij, cj, jj, aj, sj, leapS] at *); first | done | omega))); (case e1 => first | exact Hint.eq (by with_reducible assumption) | exact rfl); (case e2 => first | exact Hint.eq (by with_reducible assumption) | exact rfl); intro D9 t9 u9 h9 tk9 F9 N9; (try dsimp only); (try k_fold))))
local macro_rules | `(tactic| walk_at "call ref") => `(tactic| (k_here; (with_reducible show wpAny _ _ (PySem.call (Value.ref 304) [Value.int _ _, Value.ref 283]) _ _ _); k_dflt (refine' use (c_offh_plain1 _ _ _ _ ?h0 ?e1 ?e2) ?k1 ?k2 ?k3 ?k4 ?k5 ?kK ?kd ?ku ?_; (case k1 => k_asm); (case k2 => k_asm); (case k3 => k_asm); (case k4 => k_asm); (case k5 => k_asm); (case kK => first | exact rfl | assumption); (case kd => first | ((with_reducible refine' room_dp ?rdh ?rdk); (case rdh => with_reducible assumption); (case rdk => decide)) | ktr_room); (case ku => first | ((with_reducible refine' room_un ?ruh ?ruk); (case ruh => with_reducible assumption); (case ruk => decide)) | ktr_units); (case h0 => (law_clear; first | omega | ((try simp only [decide_eq_true_eq, decide_eq_false_iff_not, gj, ij, cj, jj, aj, sj, leapS] at *); first | done | omega))); (case e1 => first | exact Hint.eq (by with_reducible assumption) | exact rfl); (case e2 => first | exact Hint.eq (by with_reducible assumption) | exact rfl); intro D9 t9 u9 h9 tk9 F9 N9; (try dsimp only); (try k_fold))))
local macro_rules | `(tactic| walk_at "call ref") => `(tactic| (k_here; (with_reducible show wpAny _ _ (PySem.call (Value.ref 304) [Value.int _ _, Value.ref _]) _ _ _); k_dflt (refine' use (c_offh_list _ _ _ _ _ _ _ _ ?hi ?hl ?h0 ?hs ?e1 ?e2) ?k1 ?k2 ?k3 ?k4 ?k5 ?kK ?kd ?ku ?_; (case k1 => k_asm); (case k2 => k_asm); (case k3 => k_asm); (case k4 => k_asm); (case k5 => k_asm); (case kK => first | exact rfl | assumption); (case kd => first | ((with_reducible refine' room_dp ?rdh ?rdk); (case rdh => with_reducible assumption); (case rdk => decide)) | ktr_room); (case ku => first | ((with_reducible refine' room_un ?ruh ?ruk); (case ruh => with_reducible assumption); (case ruk => decide)) | ktr_units); (case hi => assumption); (case hl => first | exact szs_len _ _ | omega); (case h0 => (law_clear; first | omega | ((try simp only [decide_eq_true_eq, decide_eq_false_iff_not, gj, ij, cj, jj, aj, sj, leapS] at *); first | done | omega))); (case hs => first | assumption | (rw [szs_sum]; omega) | (rw [szs_sum]; law_clear; (try simp only [decide_eq_true_eq, decide_eq_false_iff_not, ge_iff_le, Int.not_le] at *); omega)); (case e1 => first | exact Hint.eq (by with_reducible assumption) | exact rfl); (case e2 => first | exact Hint.eq (by with_reducible assumption) | exact rfl); rotate_right; refine' ⟨?mL, ?_⟩; (case mL => k_mem); intro D9 t9 u9 h9 tk9 F9 N9; (try dsimp only); (try k_fold))))
local macro_rules | `(tactic| walk_at "eval Name") => `(tactic| (k_here; k_dflt (first | (name_kind "local"; refine' nameX_L ?F ?v ?_ ?a ?b ?c; (case F => k_asm); (case a => kernel_rfl); (case b => kernel_rfl); (case c => kernel_rfl); (case v => first | (refine' look_of ?gg ?ge; (case gg => (repeat (first | (with_reducible exact guess_hit_l) | (with_reducible apply guess_miss_l) | (with_reducible exact guess_hit_if) | ((with_reducible show Guess (@ite _ _ _ _ _) _); (with_reducible apply guess_miss_if))))); (case ge => kernel_rfl)) | exact rfl)) | (name_kind "globalImplicit"; refine' nameX_K ?F ?X ?T ?e ?_ ?a ?b ?c; (case F => k_asm); (case X => k_asm); (case T => k_asm); (case e => with_reducible (first | exact gn_law_off _ | exact gn_law_sizes _)); (case a => kernel_rfl); (case b => kernel_rfl); (case c => kernel_rfl)) | (name_kind "globalImplicit"; refine' nameX_B ?F ?X ?T ?e ?v ?n ?_ ?a ?b ?c; (case F => k_asm); (case X => k_asm); (case T => k_asm); (case e => with_reducible (first | exact gb_divmod _ | exact gb_sum _ | exact gb_len _)); (case v => with_reducible (first | exact bb_divmod | exact bb_sum | exact bb_len)); (case a => kernel_rfl); (case b => kernel_rfl); (case n => decide); (case c => kernel_rfl)))))
set_option maxRecDepth 100000 in
set_option maxHeartbeats 8000000 in
theorem c_date_lat (day : Int) (t u v z : Tok) (hd : -10000000000 < day ∧ day < 10000000000) :
    Claim 318 [.int day t, .int 1721424 u, .int 1 v, .ref 282, .int 2 z] 2 (RetD (latY day) (latM day) (latD day) (szs 2 (latS day))) := by
  refine gate_out ?_
  simp (disch := (k_dflt (
  intro prog w p loose mean mg mb dp un gd cn cs a ccd cl outer A₀ base h₀ L mm news s Q E B F X N T hk hdp hun hret
  obtain ⟨q1, r1, p1, R1, S1, m1, d1, x1, x2, x3, x4, x5, x6, x7, y1, y2, y3, y4, b1, b2, b3, b4, b5, b6, b7⟩ := date_gen 1721424 1 fourth 2 day (sum := 1461) (len := 4) (by decide +kernel) (by decide +kernel) (by decide +kernel)
  have z1 : latY day = 1 + q1 * 4 + p1 := y1
  have z2 : latS day = S1 := y2
  have z3 : latM day = m1 + 1 := y3
  have z4 : latD day = d1 + 1 := y4
  rw [z1, z2, z3, z4] at hret
  have e1 : Hint ((day - 1721424) / 1461) q1 := ⟨x1⟩
  have e2 : Hint ((day - 1721424) % 1461) r1 := ⟨x2⟩
  have e3 : Hint ((offI fourth r1).1) p1 := ⟨x3⟩
  have e4 : Hint ((offI fourth r1).2) R1 := ⟨x4⟩
  have e5 : Hint (fourth.getD p1.toNat 0) S1 := ⟨x5⟩
  have e6 : Hint ((offI (szs 2 S1) R1).1) m1 := ⟨x6⟩
  have e7 : Hint ((offI (szs 2 S1) R1).2) d1 := ⟨x7⟩
  clear x1 x2 x3 x4 x5 x6 x7 y1 y2 y3 y4 z1 z2 z3 z4
  (refine wpAny_call ?_; (k_dflt cell_enter); (try ((rename Fr _ _ _ _ => F8); (first | (have F9 := Fr_as F8 (m' := fun y9 => List.lookup y9 [(Str.ofString "kind", (.int 2 z : Value)), (Str.ofString "cycle", (.ref 282 : Value)), (Str.ofString "year", (.int 1 v : Value)), (Str.ofString "first", (.int 1721424 u : Value)), (Str.ofString "day", (.int day t : Value))]) rfl) | (have F9 := Fr_as F8 (m' := fun y9 => List.lookup y9 [(Str.ofString "day", (.int day t : Value)), (Str.ofString "first", (.int 1721424 u : Value)), (Str.ofString "year", (.int 1 v : Value)), (Str.ofString "cycle", (.ref 282 : Value)), (Str.ofString "kind", (.int 2 z : Value))]) rfl)); clear F8));  k_steps; all_goals (refine' ret_D hret ?e1 ?e2 ?e3 ?hi ?e4 ?F ?N ?m1 ?m2 ?m3 ?hs; (case F => k_asm); (case N => k_asm); (case m1 => k_mem); (case m2 => k_mem); (case m3 => k_mem); (case hi => assumption); (case e4 => exact rfl); (case hs => (first | (intro p9 hp9; (repeat (with_reducible refine List.mem_cons_of_mem _ ?_)); exact hp9) | kcj_all)); (case e1 => (law_clear; omega)); (case e2 => (law_clear; omega)); (case e3 => (law_clear; omega))))))) only [↓gate_true]
end
section
local macro_rules | `(tactic| walk_at "pad") => `(tactic| fail)
local macro_rules | `(tactic| walk_at "call ref") => `(tactic| (k_here; (with_reducible show wpAny _ _ (PySem.call (Value.ref 304) [Value.int _ _, Value.ref 280]) _ _ _); k_dflt (refine' use (c_off_thirty _ _ ?h0) ?k1 ?k2 ?k3 ?k4 ?k5 ?kK ?kd ?ku ?_; (case k1 => k_asm); (case k2 => k_asm); (case k3 => k_asm); (case k4 => k_asm); (case k5 => k_asm); (case kK => first | exact rfl | assumption); (case kd => first | ((with_reducible refine' room_dp ?rdh ?rdk); (case rdh => with_reducible assumption); (case rdk => decide)) | ktr_room); (case ku => first | ((with_reducible refine' room_un ?ruh ?ruk); (case ruh => with_reducible assumption); (case ruk => decide)) | ktr_units); (case h0 => (law_clear; first | omega | ((try simp only [decide_eq_true_eq, decide_eq_false_iff_not, gj, ij, cj, jj, aj, sj, leapS] at *); first | done | omega))); intro D9 t9 u9 h9 tk9 F9 N9; (try dsimp only); (try k_fold))))
local macro_rules | `(tactic| walk_at "call ref") => `(tactic| (k_here; (with_reducible show wpAny _ _ (PySem.call (Value.ref 304) [Value.int _ _, Value.ref 281]) _ _ _); k_dflt (refine' use (c_off_third _ _ ?h0) ?k1 ?k2 ?k3 ?k4 ?k5 ?kK ?kd ?ku ?_; (case k1 => k_asm); (case k2 => k_asm); (case k3 => k_asm); (case k4 => k_asm); (case k5 => k_asm); (case kK => first | exact rfl | assumption); (case kd => first | ((with_reducible refine' room_dp ?rdh ?rdk); (case rdh => with_reducible assumption); (case rdk => decide)) | ktr_room); (case ku => first | ((with_reducible refine' room_un ?ruh ?ruk); (case ruh => with_reducible assumption); (case ruk => decide)) | ktr_units); (case h0 => (law_clear; first | omega | ((try simp only [decide_eq_true_eq, decide_eq_false_iff_not, gj, ij, cj, jj, aj, sj, leapS] at *); first | done | omega))); intro D9 t9 u9 h9 tk9 F9 N9; (try dsimp only); (try k_fold))))
local macro_rules | `(tactic| walk_at "call ref") => `(tactic| (k_here; (with_reducible show wpAny _ _ (PySem.call (Value.ref 304) [Value.int _ _, Value.ref 282]) _ _ _); k_dflt (refine' use (c_off_fourth _ _ ?h0) ?k1 ?k2 ?k3 ?k4 ?k5 ?kK ?kd ?ku ?_; (case k1 => k_asm); (case k2 => k_asm); (case k3 => k_asm); (case k4 => k_asm); (case k5 => k_asm); (case kK => first | exact rfl | assumption); (case kd => first | ((with_reducible refine' room_dp ?rdh ?rdk); (case rdh => with_reducible assumption); (case rdk => decide)) | ktr_room); (case ku => first | ((with_reducible refine' room_un ?ruh ?ruk); (case ruh => with_reducible assumption); (case ruk => decide)) | ktr_units); (case h0 => (law_clear; first | omega | ((try simp only [decide_eq_true_eq, decide_eq_false_iff_not, gj, ij, cj, jj, aj, sj, leapS] at *); first | done | omega))); intro D9 t9 u9 h9 tk9 F9 N9; (try dsimp only); (try k_fold))))
local macro_rules | `(tactic| walk_at "call ref") => `(tactic| (k_here; (with_reducible show wpAny _ _ (PySem.call (Value.ref 304) [Value.int _ _, Value.ref 283]) _ _ _); k_dflt (refine' use (c_off_plain1 _ _ ?h0) ?k1 ?k2 ?k3 ?k4 ?k5 ?kK ?kd ?ku ?_; (case k1 => k_asm); (case k2 => k_asm); (case k3 => k_asm); (case k4 => k_asm); (case k5 => k_asm); (case kK => first | exact rfl | assumption); (case kd => first | ((with_reducible refine' room_dp ?rdh ?rdk); (case rdh => with_reducible assumption); (case rdk => decide)) | ktr_room); (case ku => first | ((with_reducible refine' room_un ?ruh ?ruk); (case ruh => with_reducible assumption); (case ruk => decide)) | ktr_units); (case h0 => (law_clear; first | omega | ((try simp only [decide_eq_true_eq, decide_eq_false_iff_not, gj, ij, cj, jj, aj, sj, leapS] at *); first | done | omega))); intro D9 t9 u9 h9 tk9 F9 N9; (try dsimp only); (try k_fold))))
local macro_rules | `(tactic| walk_at "call ref") => `(tactic| (k_here; (with_reducible show wpAny _ _ (PySem.call (Value.ref 304) [Value.int _ _, Value.ref _]) _ _ _); k_dflt (refine' use (c_off_list _ _ _ _ _ _ ?hi ?hl ?h0 ?hs) ?k1 ?k2 ?k3 ?k4 ?k5 ?kK ?kd ?ku ?_; (case k1 => k_asm); (case k2 => k_asm); (case k3 => k_asm); (case k4 => k_asm); (case k5 => k_asm); (case kK => first | exact rfl | assumption); (case kd => first | ((with_reducible refine' room_dp ?rdh ?rdk); (case rdh => with_reducible assumption); (case rdk => decide)) | ktr_room); (case ku => first | ((with_reducible refine' room_un ?ruh ?ruk); (case ruh => with_reducible assumption); (case ruk => decide)) | ktr_units); (case hi => assumption); (case hl => (law_clear; first | omega | ((try simp only [decide_eq_true_eq, decide_eq_false_iff_not, gj, ij, cj, jj, aj, sj, leapS] at *); first | done | omega))); (case h0 => (law_clear; first | omega | ((try simp only [decide_eq_true_eq, decide_eq_false_iff_not, gj, ij, cj, jj, aj, sj, leapS] at *); first | done | omega))); (case hs => (law_clear; first | omega | ((try simp only [decide_eq_true_eq, decide_eq_false_iff_not, gj, ij, cj, jj, aj, sj, leapS] at *); first | done | omega))); rotate_right; refine' ⟨?mL, ?_⟩; (case mL => k_mem); intro D9 t9 u9 h9 tk9 F9 N9; (try dsimp only); (try k_fold))))
local macro_rules | `(tactic| walk_at "call ref") => `(tactic| (k_here; (with_reducible show wpAny _ _ (PySem.call (Value.ref 311) [Value.int 0 _, Value.int _ _]) _ _ _); k_dflt (refine' use (c_sizes0 _ _ _ _ ?hk) ?k1 ?k2 ?k3 ?k4 ?k5 ?kK ?kd ?ku ?_; (case k1 => k_asm); (case k2 => k_asm); (case k3 => k_asm); (case k4 => k_asm); (case k5 => k_asm); (case kK => first | exact rfl | assumption); (case kd => first | ((with_reducible refine' room_dp ?rdh ?rdk); (case rdh => with_reducible assumption); (case rdk => decide)) | ktr_room); (case ku => first | ((with_reducible refine' room_un ?ruh ?ruk); (case ruh => with_reducible assumption); (case ruk => decide)) | ktr_units); (case hk => (law_clear; first | omega | ((try simp only [decide_eq_true_eq, decide_eq_false_iff_not, gj, ij, cj, jj, aj, sj, leapS] at *); first | done | omega))); intro D9 vs9 n9 h9 tk9 hi9 F9 N9; (try dsimp only); (try k_fold))))
local macro_rules | `(tactic| walk_at "call ref") => `(tactic| (k_here; (with_reducible show wpAny _ _ (PySem.call (Value.ref 311) [Value.int 1 _, Value.int _ _]) _ _ _); k_dflt (refine' use (c_sizes1 _ _ _ _ ?hk) ?k1 ?k2 ?k3 ?k4 ?k5 ?kK ?kd ?ku ?_; (case k1 => k_asm); (case k2 => k_asm); (case k3 => k_asm); (case k4 => k_asm); (case k5 => k_asm); (case kK => first | exact rfl | assumption); (case kd => first | ((with_reducible refine' room_dp ?rdh ?rdk); (case rdh => with_reducible assumption); (case rdk => decide)) | ktr_room); (case ku => first | ((with_reducible refine' room_un ?ruh ?ruk); (case ruh => with_reducible assumption); (case ruk => decide)) | ktr_units); (case hk => (law_clear; first | omega | ((try simp only [decide_eq_true_eq, decide_eq_false_iff_not, gj, ij, cj, jj, aj, sj, leapS] at *); first | done | omega))); intro D9 vs9 n9 h9 tk9 hi9 F9 N9; (try dsimp only); (try k_fold))))
local macro_rules | `(tactic| walk_at "call ref") => `(tactic| (k_here; (with_reducible show wpAny _ _ (PySem.call (Value.ref 311) [Value.int 2 _, Value.int _ _]) _ _ _); k_dflt (refine' use (c_sizes2 _ _ _ _ ?hk) ?k1 ?k2 ?k3 ?k4 ?k5 ?kK ?kd ?ku ?_; (case k1 => k_asm); (case k2 => k_asm); (case k3 => k_asm); (case k4 => k_asm); (case k5 => k_asm); (case kK => first | exact rfl | assumption); (case kd => first | ((with_reducible refine' room_dp ?rdh ?rdk); (case rdh => with_reducible assumption); (case rdk => decide)) | ktr_room); (case ku => first | ((with_reducible refine' room_un ?ruh ?ruk); (case ruh => with_reducible assumption); (case ruk => decide)) | ktr_units); (case hk => (law_clear; first | omega | ((try simp only [decide_eq_true_eq, decide_eq_false_iff_not, gj, ij, cj, jj, aj, sj, leapS] at *); first | done | omega))); intro D9 vs9 n9 h9 tk9 hi9 F9 N9; (try dsimp only); (try k_fold))))
local macro_rules | `(tactic| walk_at "call ref") => `(tactic| (k_here; (with_reducible show wpAny _ _ (PySem.call (Value.ref 304) [Value.int _ _, Value.ref 280]) _ _ _); k_dflt (refine' use (c_offh_thirty _ _ _ _ ?h0 ?e1 ?e2) ?k1 ?k2 ?k3 ?k4 ?k5 ?kK ?kd ?ku ?_; (case k1 => k_asm); (case k2 => k_asm); (case k3 => k_asm); (case k4 => k_asm); (case k5 => k_asm); (case kK => first | exact rfl | assumption); (case kd => first | ((with_reducible refine' room_dp ?rdh ?rdk); (case rdh => with_reducible assumption); (case rdk => decide)) | ktr_room); (case ku => first | ((with_reducible refine' room_un ?ruh ?ruk); (case ruh => with_reducible assumption); (case ruk => decide)) | ktr_units); (case h0 => (law_clear; first | omega | ((try simp only [decide_eq_true_eq, decide_eq_false_iff_not, gj, ij, cj, jj, aj, sj, leapS] at *); first | done | omega))); (case e1 => first | exact Hint.eq (by with_reducible assumption) | exact rfl); (case e2 => first | exact Hint.eq (by with_reducible assumption) | exact rfl); intro D9 t9 u9 h9 tk9 F9 N9; (try dsimp only); (try k_fold))))
local macro_rules | `(tactic| walk_at "call ref") => `(tactic| (k_here; (with_reducible show wpAny _ _ (PySem.call (Value.ref 304) [Value.int _ _, Value.ref 281]) _ _ _); k_dflt (refine' use (c_offh_third _ _ _ _ ?h0 ?e1 ?e2) ?k1 ?k2 ?k3 ?k4 ?k5 ?kK ?kd ?ku ?_; (case k1 => k_asm); (case k2 => k_asm); (case k3 => k_asm); (case k4 => k_asm); (case k5 => k_asm); (case kK => first | exact rfl | assumption); (case kd => first | ((with_reducible refine' room_dp ?rdh ?rdk); (case rdh => with_reducible assumption); (case rdk => decide)) | ktr_room); (case ku => first | ((with_reducible refine' room_un ?ruh ?ruk); (case ruh => with_reducible assumption); (case ruk => decide)) | ktr_units); (case h0 => (law_clear; first | omega | ((try simp only [decide_eq_true_eq, decide_eq_false_iff_not, gj, ij, cj, jj, aj, sj, leapS] at *); first | done | omega))); (case e1 => first | exact Hint.eq (by with_reducible assumption) | exact rfl); (case e2 => first | exact Hint.eq (by with_reducible assumption) | exact rfl); intro D9 t9 u9 h9 tk9 F9 N9; (try dsimp only); (try k_fold))))
local macro_rules | `(tactic| walk_at "call ref") => `(tactic| (k_here; (with_reducible show wpAny _ _ (PySem.call (Value.ref 304) [Value.int _ _, Value.ref 282]) _ _ _); k_dflt (refine' use (c_offh_fourth _ _ _ _ ?h0 ?e1 ?e2) ?k1 ?k2 ?k3 ?k4 ?k5 ?kK ?kd ?ku ?_; (case k1 => k_asm); (case k2 => k_asm); (case k3 => k_asm); (case k4 => k_asm); (case k5 => k_asm); (case kK => first | exact rfl | assumption); (case kd => first | ((with_reducible refine' room_dp ?rdh ?rdk); (case rdh => with_reducible assumption); (case rdk => decide)) | ktr_room); (case ku => first | ((with_reducible refine' room_un ?ruh ?ruk); (case ruh => with_reducible assumption); (case ruk => decide)) | ktr_units); (case h0 => (law_clear; first | omega | ((try simp only [decide_eq_true_eq, decide_eq_false_iff_not, gj, ij, cj, jj, aj, sj, leapS] at *); first | done | omega))); (case e1 => first | exact Hint.eq (by with_reducible assumption) | exact rfl); (case e2 => first | exact Hint.eq (by with_reducible assumption) | exact rfl); intro D9 t9 u9 h9 tk9 F9 N9; (try dsimp only); (try k_fold))))
local macro_rules | `(tactic| walk_at "call ref") => `(tactic| (k_here; (with_reducible show wpAny _ _ (PySem.call (Value.ref 304) [Value.int _ _, Value.ref 283]) _ _ _); k_dflt (refine' use (c_offh_plain1 _ _ _ _ ?h0 ?e1 ?e2) ?k1 ?k2 ?k3 ?k4 ?k5 ?kK ?kd ?ku ?_; (case k1 => k_asm); (case k2 => k_asm); (case k3 => k_asm); (case k4 => k_asm); (case k5 => k_asm); (case kK => first | exact rfl | assumption); (case kd => first | ((with_reducible refine' room_dp ?rdh ?rdk); (case rdh => with_reducible assumption); (case rdk => decide)) | ktr_room); (case ku => first | ((with_reducible refine' room_un ?ruh ?ruk); (case ruh => with_reducible assumption); (case ruk => decide)) | ktr_units); (case h0 => (law_clear; first | omega | ((try simp only [decide_eq_true_eq, decide_eq_false_iff_not, gj, ij, cj, jj, aj, sj, leapS] at *); first | done | omega))); (case e1 => first | exact Hint.eq (by with_reducible assumption) | exact rfl); (case e2 => first | exact Hint.eq (by with_reducible assumption) | exact rfl); intro D9 t9 u9 h9 tk9 F9 N9; (try dsimp only); (try k_fold))))
local macro_rules | `(tactic| walk_at "call ref") => `(tactic| (k_here; (with_reducible show wpAny _ _ (PySem.call (Value.ref 304) [Value.int _ _, Value.ref _]) _ _ _); k_dflt (refine' use (c_offh_list _ _ _ _ _ _ _ _ ?hi ?hl ?h0 ?hs ?e1 ?e2) ?k1 ?k2 ?k3 ?k4 ?k5 ?kK ?kd ?ku ?_; (case k1 => k_asm); (case k2 => k_asm); (case k3 => k_asm); (case k4 => k_asm); (case k5 => k_asm); (case kK => first | exact rfl | assumption); (case kd => first | ((with_reducible refine' room_dp ?rdh ?rdk); (case rdh => with_reducible assumption); (case rdk => decide)) | ktr_room); (case ku => first | ((with_reducible refine' room_un ?ruh ?ruk); (case ruh => with_reducible assumption); (case ruk => decide)) | ktr_units); (case hi => assumption); (case hl => first | exact szs_len _ _ | omega); (case h0 => (law_clear; first | omega | ((try simp only [decide_eq_true_eq, decide_eq_false_iff_not, gj, ij, cj, jj, aj, sj, leapS] at *); first | done | omega))); (case hs => first | assumption | (rw [szs_sum]; omega) | (rw [szs_sum]; law_clear; (try simp only [decide_eq_true_eq, decide_eq_false_iff_not, ge_iff_le, Int.not_le] at *); omega)); (case e1 => first | exact Hint.eq (by with_reducible assumption) | exact rfl); (case e2 => first | exact Hint.eq (by with_reducible assumption) | exact rfl); rotate_right; refine' ⟨?mL, ?_⟩; (case mL => k_mem); intro D9 t9 u9 h9 tk9 F9 N9; (try dsimp only); (try k_fold))))
local macro_rules | `(tactic| walk_at "eval Name") => `(tactic| (k_here; k_dflt (first | (name_kind "local"; refine' nameX_L ?F ?v ?_ ?a ?b ?c; (case F => k_asm); (case a => kernel_rfl); (case b => kernel_rfl); (case c => kernel_rfl); (case v => first | (refine' look_of ?gg ?ge; (case gg => (repeat (first | (with_reducible exact guess_hit_l) | (with_reducible apply guess_miss_l) | (with_reducible exact guess_hit_if) | ((with_reducible show Guess (@ite _ _ _ _ _) _); (with_reducible apply guess_miss_if))))); (case ge => kernel_rfl)) | exact rfl)) | (name_kind "globalImplicit"; refine' nameX_K ?F ?X ?T ?e ?_ ?a ?b ?c; (case F => k_asm); (case X => k_asm); (case T => k_asm); (case e => with_reducible (first | exact gn_law_off _ | exact gn_law_sizes _)); (case a => kernel_rfl); (case b => kernel_rfl); (case c => kernel_rfl)) | (name_kind "globalImplicit"; refine' nameX_B ?F ?X ?T ?e ?v ?n ?_ ?a ?b ?c; (case F => k_asm); (case X => k_asm); (case T => k_asm); (case e => with_reducible (first | exact gb_divmod _ | exact gb_sum _ | exact gb_len _)); (case v => with_reducible (first | exact bb_divmod | exact bb_sum | exact bb_len)); (case a => kernel_rfl); (case b => kernel_rfl); (case n => decide); (case c => kernel_rfl)))))
set_option maxRecDepth 100000 in
set_option maxHeartbeats 8000000 in
theorem c_date_arm (day : Int) (t u v z : Tok) (hd : -10000000000 < day ∧ day < 10000000000) :
    Claim 318 [.int day t, .int 1922868 u, .int 1 v, .ref 283, .int 1 z] 2 (RetD (armY day) (armM day) (armD day) (szs 1 (armS day))) := by
  refine gate_out ?_
  simp (disch := (k_dflt (
  intro prog w p loose mean mg mb dp un gd cn cs a ccd cl outer A₀ base h₀ L mm news s Q E B F X N T hk hdp hun hret
  obtain ⟨q1, r1, p1, R1, S1, m1, d1, x1, x2, x3, x4, x5, x6, x7, y1, y2, y3, y4, b1, b2, b3, b4, b5, b6, b7⟩ := date_gen 1922868 1 plain1 1 day (sum := 365) (len := 1) (by decide +kernel) (by decide +kernel) (by decide +kernel)
  have z1 : armY day = 1 + q1 * 1 + p1 := y1
  have z2 : armS day = S1 := y2
  have z3 : armM day = m1 + 1 := y3
  have z4 : armD day = d1 + 1 := y4
  rw [z1, z2, z3, z4] at hret
  have e1 : Hint ((day - 1922868) / 365) q1 := ⟨x1⟩
  have e2 : Hint ((day - 1922868) % 365) r1 := ⟨x2⟩
  have e3 : Hint ((offI plain1 r1).1) p1 := ⟨x3⟩
  have e4 : Hint ((offI plain1 r1).2) R1 := ⟨x4⟩
  have e5 : Hint (plain1.getD p1.toNat 0) S1 := ⟨x5⟩
  have e6 : Hint ((offI (szs 1 S1) R1).1) m1 := ⟨x6⟩
  have e7 : Hint ((offI (szs 1 S1) R1).2) d1 := ⟨x7⟩
  clear x1 x2 x3 x4 x5 x6 x7 y1 y2 y3 y4 z1 z2 z3 z4
  (refine wpAny_call ?_; (k_dflt cell_enter); (try ((rename Fr _ _ _ _ => F8); (first | (have F9 := Fr_as F8 (m' := fun y9 => List.lookup y9 [(Str.ofString "kind", (.int 1 z : Value)), (Str.ofString "cycle", (.ref 283 : Value)), (Str.ofString "year", (.int 1 v : Value)), (Str.ofString "first", (.int 1922868 u : Value)), (Str.ofString "day", (.int day t : Value))]) rfl) | (have F9 := Fr_as F8 (m' := fun y9 => List.lookup y9 [(Str.ofString "day", (.int day t : Value)), (Str.ofString "first", (.int 1922868 u : Value)), (Str.ofString "year", (.int 1 v : Value)), (Str.ofString "cycle", (.ref 283 : Value)), (Str.ofString "kind", (.int 1 z : Value))]) rfl)); clear F8));  k_steps; all_goals (refine' ret_D hret ?e1 ?e2 ?e3 ?hi ?e4 ?F ?N ?m1 ?m2 ?m3 ?hs; (case F => k_asm); (case N => k_asm); (case m1 => k_mem); (case m2 => k_mem); (case m3 => k_mem); (case hi => assumption); (case e4 => exact rfl); (case hs => (first | (intro p9 hp9; (repeat (with_reducible refine List.mem_cons_of_mem _ ?_)); exact hp9) | kcj_all)); (case e1 => (law_clear; omega)); (case e2 => (law_clear; omega)); (case e3 => (law_clear; omega))))))) only [↓gate_true]
end
section
local macro_rules | `(tactic| walk_at "call ref") => `(tactic| (k_here; (with_reducible show wpAny _ _ (PySem.call (Value.ref 304) [Value.int _ _, Value.ref 280]) _ _ _); k_dflt (refine' use (c_off_thirty _ _ ?h0) ?k1 ?k2 ?k3 ?k4 ?k5 ?kK ?kd ?ku ?_; (case k1 => k_asm); (case k2 => k_asm); (case k3 => k_asm); (case k4 => k_asm); (case k5 => k_asm); (case kK => first | exact rfl | assumption); (case kd => first | ((with_reducible refine' room_dp ?rdh ?rdk); (case rdh => with_reducible assumption); (case rdk => decide)) | ktr_room); (case ku => first | ((with_reducible refine' room_un ?ruh ?ruk); (case ruh => with_reducible assumption); (case ruk => decide)) | ktr_units); (case h0 => (law_clear; first | omega | ((try simp only [decide_eq_true_eq, decide_eq_false_iff_not, gj, ij, cj, jj, aj, sj, leapS] at *); first | done | omega))); intro D9 t9 u9 h9 tk9 F9 N9; (try dsimp only); (try k_fold))))
local macro_rules | `(tactic| walk_at "call ref") => `(tactic| (k_here; (with_reducible show wpAny _ _ (PySem.call (Value.ref 304) [Value.int _ _, Value.ref 281]) _ _ _); k_dflt (refine' use (c_off_third _ _ ?h0) ?k1 ?k2 ?k3 ?k4 ?k5 ?kK ?kd ?ku ?_; (case k1 => k_asm); (case k2 => k_asm); (case k3 => k_asm); (case k4 => k_asm); (case k5 => k_asm); (case kK => first | exact rfl | assumption); (case kd => first | ((with_reducible refine' room_dp ?rdh ?rdk); (case rdh => with_reducible assumption); (case rdk => decide)) | ktr_room); (case ku => first | ((with_reducible refine' room_un ?ruh ?ruk); (case ruh => with_reducible assumption); (case ruk => decide)) | ktr_units); (case h0 => (law_clear; first | omega | ((try simp only [decide_eq_true_eq, decide_eq_false_iff_not, gj, ij, cj, jj, aj, sj, leapS] at *); first | done | omega))); intro D9 t9 u9 h9 tk9 F9 N9; (try dsimp only); (try k_fold))))
local macro_rules | `(tactic| walk_at "call ref") => `(tactic| (k_here; (with_reducible show wpAny _ _ (PySem.call (Value.ref 304) [Value.int _ _, Value.ref 282]) _ _ _); k_dflt (refine' use (c_off_fourth _ _ ?h0) ?k1 ?k2 ?k3 ?k4 ?k5 ?kK ?kd ?ku ?_; (case k1 => k_asm); (case k2 => k_asm); (case k3 => k_asm); (case k4 => k_asm); (case k5 => k_asm); (case kK => first | exact rfl | assumption); (case kd => first | ((with_reducible refine' room_dp ?rdh ?rdk); (case rdh => with_reducible assumption); (case rdk => decide)) | ktr_room); (case ku => first | ((with_reducible refine' room_un ?ruh ?ruk); (case ruh => with_reducible assumption); (case ruk => decide)) | ktr_units); (case h0 => (law_clear; first | omega | ((try simp only [decide_eq_true_eq, decide_eq_false_iff_not, gj, ij, cj, jj, aj, sj, leapS] at *); first | done | omega))); intro D9 t9 u9 h9 tk9 F9 N9; (try dsimp only); (try k_fold))))
local macro_rules | `(tactic| walk_at "call ref") => `(tactic| (k_here; (with_reducible show wpAny _ _ (PySem.call (Value.ref 304) [Value.int _ _, Value.ref 283]) _ _ _); k_dflt (refine' use (c_off_plain1 _ _ ?h0) ?k1 ?k2 ?k3 ?k4 ?k5 ?kK ?kd ?ku ?_; (case k1 => k_asm); (case k2 => k_asm); (case k3 => k_asm); (case k4 => k_asm); (case k5 => k_asm); (case kK => first | exact rfl | assumption); (case kd => first | ((with_reducible refine' room_dp ?rdh ?rdk); (case rdh => with_reducible assumption); (case rdk => decide)) | ktr_room); (case ku => first | ((with_reducible refine' room_un ?ruh ?ruk); (case ruh => with_reducible assumption); (case ruk => decide)) | ktr_units); (case h0 => (law_clear; first | omega | ((try simp only [decide_eq_true_eq, decide_eq_false_iff_not, gj, ij, cj, jj, aj, sj, leapS] at *); first | done | omega))); intro D9 t9 u9 h9 tk9 F9 N9; (try dsimp only); (try k_fold))))
local macro_rules | `(tactic| walk_at "call ref") => `(tactic| (k_here; (with_reducible show wpAny _ _ (PySem.call (Value.ref 304) [Value.int _ _, Value.ref _]) _ _ _); k_dflt (refine' use (c_off_list _ _ _ _ _ _ ?hi ?hl ?h0 ?hs) ?k1 ?k2 ?k3 ?k4 ?k5 ?kK ?kd ?ku ?_; (case k1 => k_asm); (case k2 => k_asm); (case k3 => k_asm); (case k4 => k_asm); (case k5 => k_asm); (case kK => first | exact rfl | assumption); (case kd => first | ((with_reducible refine' room_dp ?rdh ?rdk); (case rdh => with_reducible assumption); (case rdk => decide)) | ktr_room); (case ku => first | ((with_reducible refine' room_un ?ruh ?ruk); (case ruh => with_reducible assumption); (case ruk => decide)) | ktr_units); (case hi => assumption); (case hl => (law_clear; first | omega | ((try simp only [decide_eq_true_eq, decide_eq_false_iff_not, gj, ij, cj, jj, aj, sj, leapS] at *); first | done | omega))); (case h0 => (law_clear; first | omega | ((try simp only [decide_eq_true_eq, decide_eq_false_iff_not, gj, ij, cj, jj, aj, sj, leapS] at *); first | done | omega))); (case hs => (law_clear; first | omega | ((try simp only [decide_eq_true_eq, decide_eq_false_iff_not, gj, ij, cj, jj, aj, sj, leapS] at *); first | done | omega))); rotate_right; refine' ⟨?mL, ?_⟩; (case mL => k_mem); intro D9 t9 u9 h9 tk9 F9 N9; (try dsimp only); (try k_fold))))
local macro_rules | `(tactic| walk_at "call ref") => `(tactic| (k_here; (with_reducible show wpAny _ _ (PySem.call (Value.ref 311) [Value.int 0 _, Value.int _ _]) _ _ _); k_dflt (refine' use (c_sizes0 _ _ _ _ ?hk) ?k1 ?k2 ?k3 ?k4 ?k5 ?kK ?kd ?ku ?_; (case k1 => k_asm); (case k2 => k_asm); (case k3 => k_asm); (case k4 => k_asm); (case k5 => k_asm); (case kK => first | exact rfl | assumption); (case kd => first | ((with_reducible refine' room_dp ?rdh ?rdk); (case rdh => with_reducible assumption); (case rdk => decide)) | ktr_room); (case ku => first | ((with_reducible refine' room_un ?ruh ?ruk); (case ruh => with_reducible assumption); (case ruk => decide)) | ktr_units); (case hk => (law_clear; first | omega | ((try simp only [decide_eq_true_eq, decide_eq_false_iff_not, gj, ij, cj, jj, aj, sj, leapS] at *); first | done | omega))); intro D9 vs9 n9 h9 tk9 hi9 F9 N9; (try dsimp only); (try k_fold))))
local macro_rules | `(tactic| walk_at "call ref") => `(tactic| (k_here; (with_reducible show wpAny _ _ (PySem.call (Value.ref 311) [Value.int 1 _, Value.int _ _]) _ _ _); k_dflt (refine' use (c_sizes1 _ _ _ _ ?hk) ?k1 ?k2 ?k3 ?k4 ?k5 ?kK ?kd ?ku ?_; (case k1 => k_asm); (case k2 => k_asm); (case k3 => k_asm); (case k4 => k_asm); (case k5 => k_asm); (case kK => first | exact rfl | assumption); (case kd => first | ((with_reducible refine' room_dp ?rdh ?rdk); (case rdh => with_reducible assumption); (case rdk => decide)) | ktr_room); (case ku => first | ((with_reducible refine' room_un ?ruh ?ruk); (case ruh => with_reducible assumption); (case ruk => decide)) | ktr_units); (case hk => (law_clear; first | omega | ((try simp only [decide_eq_true_eq, decide_eq_false_iff_not, gj, ij, cj, jj, aj, sj, leapS] at *); first | done | omega))); intro D9 vs9 n9 h9 tk9 hi9 F9 N9; (try dsimp only); (try k_fold))))
local macro_rules | `(tactic| walk_at "call ref") => `(tactic| (k_here; (with_reducible show wpAny _ _ (PySem.call (Value.ref 311) [Value.int 2 _, Value.int _ _]) _ _ _); k_dflt (refine' use (c_sizes2 _ _ _ _ ?hk) ?k1 ?k2 ?k3 ?k4 ?k5 ?kK ?kd ?ku ?_; (case k1 => k_asm); (case k2 => k_asm); (case k3 => k_asm); (case k4 => k_asm); (case k5 => k_asm); (case kK => first | exact rfl | assumption); (case kd => first | ((with_reducible refine' room_dp ?rdh ?rdk); (case rdh => with_reducible assumption); (case rdk => decide)) | ktr_room); (case ku => first | ((with_reducible refine' room_un ?ruh ?ruk); (case ruh => with_reducible assumption); (case ruk => decide)) | ktr_units); (case hk => (law_clear; first | omega | ((try simp only [decide_eq_true_eq, decide_eq_false_iff_not, gj, ij, cj, jj, aj, sj, leapS] at *); first | done | omega))); intro D9 vs9 n9 h9 tk9 hi9 F9 N9; (try dsimp only); (try k_fold))))
local macro_rules | `(tactic| walk_at "call ref") => `(tactic| (k_here; (with_reducible show wpAny _ _ (PySem.call (Value.ref 304) [Value.int _ _, Value.ref 280]) _ _ _); k_dflt (refine' use (c_offh_thirty _ _ _ _ ?h0 ?e1 ?e2) ?k1 ?k2 ?k3 ?k4 ?k5 ?kK ?kd ?ku ?_; (case k1 => k_asm); (case k2 => k_asm); (case k3 => k_asm); (case k4 => k_asm); (case k5 => k_asm); (case kK => first | exact rfl | assumption); (case kd => first | ((with_reducible refine' room_dp ?rdh ?rdk); (case rdh => with_reducible assumption); (case rdk => decide)) | ktr_room); (case ku => first | ((with_reducible refine' room_un ?ruh ?ruk); (case ruh => with_reducible assumption); (case ruk => decide)) | ktr_units); (case h0 => (law_clear; first | omega | ((try simp only [decide_eq_true_eq, decide_eq_false_iff_not, gj, ij, cj, jj, aj, sj, leapS] at *); first | done | omega))); (case e1 => first | exact Hint.eq (by with_reducible assumption) | exact rfl); (case e2 => first | exact Hint.eq (by with_reducible assumption) | exact rfl); intro D9 t9 u9 h9 tk9 F9 N9; (try dsimp only); (try k_fold))))
local macro_rules | `(tactic| walk_at "call ref") => `(tactic| (k_here; (with_reducible show wpAny _ _ (PySem.call (Value.ref 304) [Value.int _ _, Value.ref 281]) _ _ _); k_dflt (refine' use (c_offh_third _ _ _ _ ?h0 ?e1 ?e2) ?k1 ?k2 ?k3 ?k4 ?k5 ?kK ?kd ?ku ?_; (case k1 => k_asm); (case k2 => k_asm); (case k3 => k_asm); (case k4 => k_asm); (case k5 => k_asm); (case kK => first | exact rfl | assumption); (case kd => first | ((with_reducible refine' room_dp ?rdh ?rdk); (case rdh => with_reducible assumption); (case rdk => decide)) | ktr_room); (case ku => first | ((with_reducible refine' room_un ?ruh ?ruk); (case ruh => with_reducible assumption); (case ruk => decide)) | ktr_units); (case h0 => (law_clear; first | omega | ((try simp only [decide_eq_true_eq, decide_eq_false_iff_not, gj, ij, cj, jj, aj, sj, leapS] at *); first | done | omega))); (case e1 => first | exact Hint.eq (by with_reducible assumption) | exact rfl); (case e2 => first | exact Hint.eq (by with_reducible assumption) | exact rfl); intro D9 t9 u9 h9 tk9 F9 N9; (try dsimp only); (try k_fold))))
local macro_rules | `(tactic| walk_at "call ref") => `(tactic| (k_here; (with_reducible show wpAny _ _ (PySem.call (Value.ref 304) [Value.int _ _, Value.ref 282]) _ _ _); k_dflt (refine' use (c_offh_fourth _ _ _ _ ?h0 ?e1 ?e2) ?k1 ?k2 ?k3 ?k4 ?k5 ?kK ?kd ?ku ?_; (case k1 => k_asm); (case k2 => k_asm); (case k3 => k_asm); (case k4 => k_asm); (case k5 => k_asm); (case kK => first | exact rfl | assumption); (case kd => first | ((with_reducible refine' room_dp ?rdh ?rdk); (case rdh => with_reducible assumption); (case rdk => decide)) | ktr_room); (case ku => first | ((with_reducible refine' room_un ?ruh ?ruk); (case ruh => with_reducible assumption); (case ruk => decide)) | ktr_units); (case h0 => (law_clear; first | omega | ((try simp only [decide_eq_true_eq, decide_eq_false_iff_not, gj, ij, cj, jj, aj, sj, leapS] at *); first | done | omega))); (case e1 => first | exact Hint.eq (by with_reducible assumption) | exact rfl); (case e2 => first | exact Hint.eq (by with_reducible assumption) | exact rfl); intro D9 t9 u9 h9 tk9 F9 N9; (try dsimp only); (try k_fold))))
local macro_rules | `(tactic| walk_at "call ref") => `(tactic| (k_here; (with_reducible show wpAny _ _ (PySem.call (Value.ref 304) [Value.int _ _, Value.ref 283]) _ _ _); k_dflt (refine' use (c_offh_plain1 _ _ _ _ ?h0 ?e1 ?e2) ?k1 ?k2 ?k3 ?k4 ?k5 ?kK ?kd ?ku ?_; (case k1 => k_asm); (case k2 => k_asm); (case k3 => k_asm); (case k4 => k_asm); (case k5 => k_asm); (case kK => first | exact rfl | assumption); (case kd => first | ((with_reducible refine' room_dp ?rdh ?rdk); (case rdh => with_reducible assumption); (case rdk => decide)) | ktr_room); (case ku => first | ((with_reducible refine' room_un ?ruh ?ruk); (case ruh => with_reducible assumption); (case ruk => decide)) | ktr_units); (case h0 => (law_clear; first | omega | ((try simp only [decide_eq_true_eq, decide_eq_false_iff_not, gj, ij, cj, jj, aj, sj, leapS] at *); first | done | omega))); (case e1 => first | exact Hint.eq (by with_reducible assumption) | exact rfl); (case e2 => first | exact Hint.eq (by with_reducible assumption) | exact rfl); intro D9 t9 u9 h9 tk9 F9 N9; (try dsimp only); (try k_fold))))
local macro_rules | `(tactic| walk_at "call ref") => `(tactic| (k_here; (with_reducible show wpAny _ _ (PySem.call (Value.ref 304) [Value.int _ _, Value.ref _]) _ _ _); k_dflt (refine' use (c_offh_list _ _ _ _ _ _ _ _ ?hi ?hl ?h0 ?hs ?e1 ?e2) ?k1 ?k2 ?k3 ?k4 ?k5 ?kK ?kd ?ku ?_; (case k1 => k_asm); (case k2 => k_asm); (case k3 => k_asm); (case k4 => k_asm); (case k5 => k_asm); (case kK => first | exact rfl | assumption); (case kd => first | ((with_reducible refine' room_dp ?rdh ?rdk); (case rdh => with_reducible assumption); (case rdk => decide)) | ktr_room); (case ku => first | ((with_reducible refine' room_un ?ruh ?ruk); (case ruh => with_reducible assumption); (case ruk => decide)) | ktr_units); (case hi => assumption); (case hl => first | exact szs_len _ _ | omega); (case h0 => (law_clear; first | omega | ((try simp only [decide_eq_true_eq, decide_eq_false_iff_not, gj, ij, cj, jj, aj, sj, leapS] at *); first | done | omega))); (case hs => first | assumption | (rw [szs_sum]; omega) | (rw [szs_sum]; law_clear; (try simp only [decide_eq_true_eq, decide_eq_false_iff_not, ge_iff_le, Int.not_le] at *); omega)); (case e1 => first | exact Hint.eq (by with_reducible assumption) | exact rfl); (case e2 => first | exact Hint.eq (by with_reducible assumption) | exact rfl); rotate_right; refine' ⟨?mL, ?_⟩; (case mL => k_mem); intro D9 t9 u9 h9 tk9 F9 N9; (try dsimp only); (try k_fold))))
local macro_rules | `(tactic| walk_at "eval Name") => `(tactic| (k_here; k_dflt (first | (name_kind "local"; refine' nameX_L ?F ?v ?_ ?a ?b ?c; (case F => k_asm); (case a => kernel_rfl); (case b => kernel_rfl); (case c => kernel_rfl); (case v => first | (refine' look_of ?gg ?ge; (case gg => (repeat (first | (with_reducible exact guess_hit_l) | (with_reducible apply guess_miss_l) | (with_reducible exact guess_hit_if) | ((with_reducible show Guess (@ite _ _ _ _ _) _); (with_reducible apply guess_miss_if))))); (case ge => kernel_rfl)) | exact rfl)) | (name_kind "globalImplicit"; refine' nameX_K ?F ?X ?T ?e ?_ ?a ?b ?c; (case F => k_asm); (case X => k_asm); (case T => k_asm); (case e => with_reducible (first | exact gn_law_off _ | exact gn_law_sizes _)); (case a => kernel_rfl); (case b => kernel_rfl); (case c => kernel_rfl)) | (name_kind "globalImplicit"; refine' nameX_B ?F ?X ?T ?e ?v ?n ?_ ?a ?b ?c; (case F => k_asm); (case X => k_asm); (case T => k_asm); (case e => with_reducible (first | exact gb_divmod _ | exact gb_sum _ | exact gb_len _)); (case v => with_reducible (first | exact bb_divmod | exact bb_sum | exact bb_len)); (case a => kernel_rfl); (case b => kernel_rfl); (case n => decide); (case c => kernel_rfl)))))
set_option maxRecDepth 100000 in
set_option maxHeartbeats 8000000 in
theorem c_date_sar (day : Int) (t u v z : Tok) (hd : -10000000000 < day ∧ day < 10000000000) :
    Claim 318 [.int day t, .int 2117212 u, .int 533 v, .ref 282, .int 1 z] 2 (RetD (sarY day) (sarM day) (sarD day) (szs 1 (sarS day))) := by
  refine gate_out ?_
  simp (disch := (k_dflt (
  intro prog w p loose mean mg mb dp un gd cn cs a ccd cl outer A₀ base h₀ L mm news s Q E B F X N T hk hdp hun hret
  obtain ⟨q1, r1, p1, R1, S1, m1, d1, x1, x2, x3, x4, x5, x6, x7, y1, y2, y3, y4, b1, b2, b3, b4, b5, b6, b7⟩ := date_gen 2117212 533 fourth 1 day (sum := 1461) (len := 4) (by decide +kernel) (by decide +kernel) (by decide +kernel)
  have z1 : sarY day = 533 + q1 * 4 + p1 := y1
  have z2 : sarS day = S1 := y2
  have z3 : sarM day = m1 + 1 := y3
  have z4 : sarD day = d1 + 1 := y4
  rw [z1, z2, z3, z4] at hret
  have e1 : Hint ((day - 2117212) / 1461) q1 := ⟨x1⟩
  have e2 : Hint ((day - 2117212) % 1461) r1 := ⟨x2⟩
  have e3 : Hint ((offI fourth r1).1) p1 := ⟨x3⟩
  have e4 : Hint ((offI fourth r1).2) R1 := ⟨x4⟩
  have e5 : Hint (fourth.getD p1.toNat 0) S1 := ⟨x5⟩
  have e6 : Hint ((offI (szs 1 S1) R1).1) m1 := ⟨x6⟩
  have e7 : Hint ((offI (szs 1 S1) R1).2) d1 := ⟨x7⟩
  clear x1 x2 x3 x4 x5 x6 x7 y1 y2 y3 y4 z1 z2 z3 z4
  (refine wpAny_call ?_; (k_dflt cell_enter); (try ((rename Fr _ _ _ _ => F8); (first | (have F9 := Fr_as F8 (m' := fun y9 => List.lookup y9 [(Str.ofString "kind", (.int 1 z : Value)), (Str.ofString "cycle", (.ref 282 : Value)), (Str.ofString "year", (.int 533 v : Value)), (Str.ofString "first", (.int 2117212 u : Value)), (Str.ofString "day", (.int day t : Value))]) rfl) | (have F9 := Fr_as F8 (m' := fun y9 => List.lookup y9 [(Str.ofString "day", (.int day t : Value)), (Str.ofString "first", (.int 2117212 u : Value)), (Str.ofString "year", (.int 533 v : Value)), (Str.ofString "cycle", (.ref 282 : Value)), (Str.ofString "kind", (.int 1 z : Value))]) rfl)); clear F8));  k_steps; all_goals (refine' ret_D hret ?e1 ?e2 ?e3 ?hi ?e4 ?F ?N ?m1 ?m2 ?m3 ?hs; (case F => k_asm); (case N => k_asm); (case m1 => k_mem); (case m2 => k_mem); (case m3 => k_mem); (case hi => assumption); (case e4 => exact rfl); (case hs => (first | (intro p9 hp9; (repeat (with_reducible refine List.mem_cons_of_mem _ ?_)); exact hp9) | kcj_all)); (case e1 => (law_clear; omega)); (case e2 => (law_clear; omega)); (case e3 => (law_clear; omega))))))) only [↓gate_true]
end
/-- a tuple of three ints stands at hand -/
abbrev WithT (T : Addr) (o : Obj) (R : Heap → Addr → (Str → Option Value) → List (Addr × Obj) → Shared → (Value → Shared → Prop) → (Value → Shared → Prop) → Prop) : Heap → Addr → (Str → Option Value) → List (Addr × Obj) → Shared → (Value → Shared → Prop) → (Value → Shared → Prop) → Prop :=
  fun h₀ L m news s Q E => (T, o) ∈ news ∧ R h₀ L m news s Q E
section
local macro_rules | `(tactic| walk_at "eval Name") => `(tactic| (k_here; k_dflt (first | (name_kind "local"; refine' nameX_L ?F ?v ?_ ?a ?b ?c; (case F => k_asm); (case a => kernel_rfl); (case b => kernel_rfl); (case c => kernel_rfl); (case v => first | (refine' look_of ?gg ?ge; (case gg => (repeat (first | (with_reducible exact guess_hit_l) | (with_reducible apply guess_miss_l) | (with_reducible exact guess_hit_if) | ((with_reducible show Guess (@ite _ _ _ _ _) _); (with_reducible apply guess_miss_if))))); (case ge => kernel_rfl)) | exact rfl)) | (name_kind "globalImplicit"; refine' nameX_B ?F ?X ?T ?e ?v ?n ?_ ?a ?b ?c; (case F => k_asm); (case X => k_asm); (case T => k_asm); (case e => with_reducible (first | exact gb_len _)); (case v => with_reducible (first | exact bb_len)); (case a => kernel_rfl); (case b => kernel_rfl); (case n => decide); (case c => kernel_rfl)))))
set_option maxRecDepth 100000 in
set_option maxHeartbeats 8000000 in
theorem c_next (T Ls : Addr) (y m d : Int) (t u v : Tok) (vs : List Value) (n : Nat) (ns : List Int) (a b c : Int) (hi : IntsAre vs ns) (hl : (ns.length : Int) ≤ 100) (hm : 1 ≤ m ∧ m ≤ ns.length) (hx : NextIs y m d ns a b c) :
    Claim 344 [.ref T, .ref Ls] 1 (WithT T (tup3 y t m u d v) (WithL Ls vs n (RetT3 a b c))) := by
  refine gate_out ?_
  simp (disch := (k_dflt (
  intro prog w p loose mean mg mb dp un gd cn cs a ccd cl outer A₀ base h₀ L mm news s Q E B F X N T hk hdp hun hret
  obtain ⟨hT, hL, hret⟩ := hret
  (refine wpAny_call ?_; (k_dflt cell_enter); (try ((rename Fr _ _ _ _ => F8); (first | (have F9 := Fr_as F8 (m' := fun y9 => List.lookup y9 [(Str.ofString "sizes", (.ref Ls : Value)), (Str.ofString "dated", (.ref T : Value))]) rfl) | (have F9 := Fr_as F8 (m' := fun y9 => List.lookup y9 [(Str.ofString "dated", (.ref T : Value)), (Str.ofString "sizes", (.ref Ls : Value))]) rfl)); clear F8));  k_steps; all_goals (refine' ret_T3 hret ?e1 ?e2 ?e3 ?F ?NM ?hs; (case F => k_asm); (case NM => (refine' ⟨?n1, ?n2⟩; (case n1 => k_asm); (case n2 => k_mem))); (case hs => (first | (intro p9 hp9; (repeat (with_reducible refine List.mem_cons_of_mem _ ?_)); exact hp9) | kcj_all)); (case e1 => (unfold NextIs at hx; law_clear; (try simp only [decide_eq_true_eq, decide_eq_false_iff_not] at *); omega)); (case e2 => (unfold NextIs at hx; law_clear; (try simp only [decide_eq_true_eq, decide_eq_false_iff_not] at *); omega)); (case e3 => (unfold NextIs at hx; law_clear; (try simp only [decide_eq_true_eq, decide_eq_false_iff_not] at *); omega))))))) only [↓gate_true]
end
section
local macro_rules | `(tactic| walk_at "call ref") => `(tactic| (k_here; (with_reducible show wpAny _ _ (PySem.call (Value.ref 304) [Value.int _ _, Value.ref 280]) _ _ _); k_dflt (refine' use (c_off_thirty _ _ ?h0) ?k1 ?k2 ?k3 ?k4 ?k5 ?kK ?kd ?ku ?_; (case k1 => k_asm); (case k2 => k_asm); (case k3 => k_asm); (case k4 => k_asm); (case k5 => k_asm); (case kK => first | exact rfl | assumption); (case kd => first | ((with_reducible refine' room_dp ?rdh ?rdk); (case rdh => with_reducible assumption); (case rdk => decide)) | ktr_room); (case ku => first | ((with_reducible refine' room_un ?ruh ?ruk); (case ruh => with_reducible assumption); (case ruk => decide)) | ktr_units); (case h0 => (law_clear; first | omega | ((try simp only [decide_eq_true_eq, decide_eq_false_iff_not, gj, ij, cj, jj, aj, sj, leapS] at *); first | done | omega))); intro D9 t9 u9 h9 tk9 F9 N9; (try dsimp only); (try k_fold))))
local macro_rules | `(tactic| walk_at "call ref") => `(tactic| (k_here; (with_reducible show wpAny _ _ (PySem.call (Value.ref 304) [Value.int _ _, Value.ref 281]) _ _ _); k_dflt (refine' use (c_off_third _ _ ?h0) ?k1 ?k2 ?k3 ?k4 ?k5 ?kK ?kd ?ku ?_; (case k1 => k_asm); (case k2 => k_asm); (case k3 => k_asm); (case k4 => k_asm); (case k5 => k_asm); (case kK => first | exact rfl | assumption); (case kd => first | ((with_reducible refine' room_dp ?rdh ?rdk); (case rdh => with_reducible assumption); (case rdk => decide)) | ktr_room); (case ku => first | ((with_reducible refine' room_un ?ruh ?ruk); (case ruh => with_reducible assumption); (case ruk => decide)) | ktr_units); (case h0 => (law_clear; first | omega | ((try simp only [decide_eq_true_eq, decide_eq_false_iff_not, gj, ij, cj, jj, aj, sj, leapS] at *); first | done | omega))); intro D9 t9 u9 h9 tk9 F9 N9; (try dsimp only); (try k_fold))))
local macro_rules | `(tactic| walk_at "call ref") => `(tactic| (k_here; (with_reducible show wpAny _ _ (PySem.call (Value.ref 304) [Value.int _ _, Value.ref 282]) _ _ _); k_dflt (refine' use (c_off_fourth _ _ ?h0) ?k1 ?k2 ?k3 ?k4 ?k5 ?kK ?kd ?ku ?_; (case k1 => k_asm); (case k2 => k_asm); (case k3 => k_asm); (case k4 => k_asm); (case k5 => k_asm); (case kK => first | exact rfl | assumption); (case kd => first | ((with_reducible refine' room_dp ?rdh ?rdk); (case rdh => with_reducible assumption); (case rdk => decide)) | ktr_room); (case ku => first | ((with_reducible refine' room_un ?ruh ?ruk); (case ruh => with_reducible assumption); (case ruk => decide)) | ktr_units); (case h0 => (law_clear; first | omega | ((try simp only [decide_eq_true_eq, decide_eq_false_iff_not, gj, ij, cj, jj, aj, sj, leapS] at *); first | done | omega))); intro D9 t9 u9 h9 tk9 F9 N9; (try dsimp only); (try k_fold))))
local macro_rules | `(tactic| walk_at "call ref") => `(tactic| (k_here; (with_reducible show wpAny _ _ (PySem.call (Value.ref 304) [Value.int _ _, Value.ref 283]) _ _ _); k_dflt (refine' use (c_off_plain1 _ _ ?h0) ?k1 ?k2 ?k3 ?k4 ?k5 ?kK ?kd ?ku ?_; (case k1 => k_asm); (case k2 => k_asm); (case k3 => k_asm); (case k4 => k_asm); (case k5 => k_asm); (case kK => first | exact rfl | assumption); (case kd => first | ((with_reducible refine' room_dp ?rdh ?rdk); (case rdh => with_reducible assumption); (case rdk => decide)) | ktr_room); (case ku => first | ((with_reducible refine' room_un ?ruh ?ruk); (case ruh => with_reducible assumption); (case ruk => decide)) | ktr_units); (case h0 => (law_clear; first | omega | ((try simp only [decide_eq_true_eq, decide_eq_false_iff_not, gj, ij, cj, jj, aj, sj, leapS] at *); first | done | omega))); intro D9 t9 u9 h9 tk9 F9 N9; (try dsimp only); (try k_fold))))
local macro_rules | `(tactic| walk_at "call ref") => `(tactic| (k_here; (with_reducible show wpAny _ _ (PySem.call (Value.ref 304) [Value.int _ _, Value.ref _]) _ _ _); k_dflt (refine' use (c_off_list _ _ _ _ _ _ ?hi ?hl ?h0 ?hs) ?k1 ?k2 ?k3 ?k4 ?k5 ?kK ?kd ?ku ?_; (case k1 => k_asm); (case k2 => k_asm); (case k3 => k_asm); (case k4 => k_asm); (case k5 => k_asm); (case kK => first | exact rfl | assumption); (case kd => first | ((with_reducible refine' room_dp ?rdh ?rdk); (case rdh => with_reducible assumption); (case rdk => decide)) | ktr_room); (case ku => first | ((with_reducible refine' room_un ?ruh ?ruk); (case ruh => with_reducible assumption); (case ruk => decide)) | ktr_units); (case hi => assumption); (case hl => (law_clear; first | omega | ((try simp only [decide_eq_true_eq, decide_eq_false_iff_not, gj, ij, cj, jj, aj, sj, leapS] at *); first | done | omega))); (case h0 => (law_clear; first | omega | ((try simp only [decide_eq_true_eq, decide_eq_false_iff_not, gj, ij, cj, jj, aj, sj, leapS] at *); first | done | omega))); (case hs => (law_clear; first | omega | ((try simp only [decide_eq_true_eq, decide_eq_false_iff_not, gj, ij, cj, jj, aj, sj, leapS] at *); first | done | omega))); rotate_right; refine' ⟨?mL, ?_⟩; (case mL => k_mem); intro D9 t9 u9 h9 tk9 F9 N9; (try dsimp only); (try k_fold))))
local macro_rules | `(tactic| walk_at "call ref") => `(tactic| (k_here; (with_reducible show wpAny _ _ (PySem.call (Value.ref 311) [Value.int 0 _, Value.int _ _]) _ _ _); k_dflt (refine' use (c_sizes0 _ _ _ _ ?hk) ?k1 ?k2 ?k3 ?k4 ?k5 ?kK ?kd ?ku ?_; (case k1 => k_asm); (case k2 => k_asm); (case k3 => k_asm); (case k4 => k_asm); (case k5 => k_asm); (case kK => first | exact rfl | assumption); (case kd => first | ((with_reducible refine' room_dp ?rdh ?rdk); (case rdh => with_reducible assumption); (case rdk => decide)) | ktr_room); (case ku => first | ((with_reducible refine' room_un ?ruh ?ruk); (case ruh => with_reducible assumption); (case ruk => decide)) | ktr_units); (case hk => (law_clear; first | omega | ((try simp only [decide_eq_true_eq, decide_eq_false_iff_not, gj, ij, cj, jj, aj, sj, leapS] at *); first | done | omega))); intro D9 vs9 n9 h9 tk9 hi9 F9 N9; (try dsimp only); (try k_fold))))
local macro_rules | `(tactic| walk_at "call ref") => `(tactic| (k_here; (with_reducible show wpAny _ _ (PySem.call (Value.ref 311) [Value.int 1 _, Value.int _ _]) _ _ _); k_dflt (refine' use (c_sizes1 _ _ _ _ ?hk) ?k1 ?k2 ?k3 ?k4 ?k5 ?kK ?kd ?ku ?_; (case k1 => k_asm); (case k2 => k_asm); (case k3 => k_asm); (case k4 => k_asm); (case k5 => k_asm); (case kK => first | exact rfl | assumption); (case kd => first | ((with_reducible refine' room_dp ?rdh ?rdk); (case rdh => with_reducible assumption); (case rdk => decide)) | ktr_room); (case ku => first | ((with_reducible refine' room_un ?ruh ?ruk); (case ruh => with_reducible assumption); (case ruk => decide)) | ktr_units); (case hk => (law_clear; first | omega | ((try simp only [decide_eq_true_eq, decide_eq_false_iff_not, gj, ij, cj, jj, aj, sj, leapS] at *); first | done | omega))); intro D9 vs9 n9 h9 tk9 hi9 F9 N9; (try dsimp only); (try k_fold))))
local macro_rules | `(tactic| walk_at "call ref") => `(tactic| (k_here; (with_reducible show wpAny _ _ (PySem.call (Value.ref 311) [Value.int 2 _, Value.int _ _]) _ _ _); k_dflt (refine' use (c_sizes2 _ _ _ _ ?hk) ?k1 ?k2 ?k3 ?k4 ?k5 ?kK ?kd ?ku ?_; (case k1 => k_asm); (case k2 => k_asm); (case k3 => k_asm); (case k4 => k_asm); (case k5 => k_asm); (case kK => first | exact rfl | assumption); (case kd => first | ((with_reducible refine' room_dp ?rdh ?rdk); (case rdh => with_reducible assumption); (case rdk => decide)) | ktr_room); (case ku => first | ((with_reducible refine' room_un ?ruh ?ruk); (case ruh => with_reducible assumption); (case ruk => decide)) | ktr_units); (case hk => (law_clear; first | omega | ((try simp only [decide_eq_true_eq, decide_eq_false_iff_not, gj, ij, cj, jj, aj, sj, leapS] at *); first | done | omega))); intro D9 vs9 n9 h9 tk9 hi9 F9 N9; (try dsimp only); (try k_fold))))
local macro_rules | `(tactic| walk_at "call ref") => `(tactic| (k_here; (with_reducible show wpAny _ _ (PySem.call (Value.ref 330) [Value.int _ _]) _ _ _); k_dflt (refine' use (c_year _ _) ?k1 ?k2 ?k3 ?k4 ?k5 ?kK ?kd ?ku ?_; (case k1 => k_asm); (case k2 => k_asm); (case k3 => k_asm); (case k4 => k_asm); (case k5 => k_asm); (case kK => first | exact rfl | assumption); (case kd => first | ((with_reducible refine' room_dp ?rdh ?rdk); (case rdh => with_reducible assumption); (case rdk => decide)) | ktr_room); (case ku => first | ((with_reducible refine' room_un ?ruh ?ruk); (case ruh => with_reducible assumption); (case ruk => decide)) | ktr_units); intro t9 h9 tk9 F9 N9; (try dsimp only); (try k_fold))))
local macro_rules | `(tactic| walk_at "call ref") => `(tactic| (k_here; (with_reducible show wpAny _ _ (PySem.call (Value.ref 304) [Value.int _ _, Value.ref 280]) _ _ _); k_dflt (refine' use (c_offh_thirty _ _ _ _ ?h0 ?e1 ?e2) ?k1 ?k2 ?k3 ?k4 ?k5 ?kK ?kd ?ku ?_; (case k1 => k_asm); (case k2 => k_asm); (case k3 => k_asm); (case k4 => k_asm); (case k5 => k_asm); (case kK => first | exact rfl | assumption); (case kd => first | ((with_reducible refine' room_dp ?rdh ?rdk); (case rdh => with_reducible assumption); (case rdk => decide)) | ktr_room); (case ku => first | ((with_reducible refine' room_un ?ruh ?ruk); (case ruh => with_reducible assumption); (case ruk => decide)) | ktr_units); (case h0 => (law_clear; first | omega | ((try simp only [decide_eq_true_eq, decide_eq_false_iff_not, gj, ij, cj, jj, aj, sj, leapS] at *); first | done | omega))); (case e1 => first | exact Hint.eq (by with_reducible assumption) | exact rfl); (case e2 => first | exact Hint.eq (by with_reducible assumption) | exact rfl); intro D9 t9 u9 h9 tk9 F9 N9; (try dsimp only); (try k_fold))))
local macro_rules | `(tactic| walk_at "call ref") => `(tactic| (k_here; (with_reducible show wpAny _ _ (PySem.call (Value.ref 304) [Value.int _ _, Value.ref 281]) _ _ _); k_dflt (refine' use (c_offh_third _ _ _ _ ?h0 ?e1 ?e2) ?k1 ?k2 ?k3 ?k4 ?k5 ?kK ?kd ?ku ?_; (case k1 => k_asm); (case k2 => k_asm); (case k3 => k_asm); (case k4 => k_asm); (case k5 => k_asm); (case kK => first | exact rfl | assumption); (case kd => first | ((with_reducible refine' room_dp ?rdh ?rdk); (case rdh => with_reducible assumption); (case rdk => decide)) | ktr_room); (case ku => first | ((with_reducible refine' room_un ?ruh ?ruk); (case ruh => with_reducible assumption); (case ruk => decide)) | ktr_units); (case h0 => (law_clear; first | omega | ((try simp only [decide_eq_true_eq, decide_eq_false_iff_not, gj, ij, cj, jj, aj, sj, leapS] at *); first | done | omega))); (case e1 => first | exact Hint.eq (by with_reducible assumption) | exact rfl); (case e2 => first | exact Hint.eq (by with_reducible assumption) | exact rfl); intro D9 t9 u9 h9 tk9 F9 N9; (try dsimp only); (try k_fold))))
local macro_rules | `(tactic| walk_at "call ref") => `(tactic| (k_here; (with_reducible show wpAny _ _ (PySem.call (Value.ref 304) [Value.int _ _, Value.ref 282]) _ _ _); k_dflt (refine' use (c_offh_fourth _ _ _ _ ?h0 ?e1 ?e2) ?k1 ?k2 ?k3 ?k4 ?k5 ?kK ?kd ?ku ?_; (case k1 => k_asm); (case k2 => k_asm); (case k3 => k_asm); (case k4 => k_asm); (case k5 => k_asm); (case kK => first | exact rfl | assumption); (case kd => first | ((with_reducible refine' room_dp ?rdh ?rdk); (case rdh => with_reducible assumption); (case rdk => decide)) | ktr_room); (case ku => first | ((with_reducible refine' room_un ?ruh ?ruk); (case ruh => with_reducible assumption); (case ruk => decide)) | ktr_units); (case h0 => (law_clear; first | omega | ((try simp only [decide_eq_true_eq, decide_eq_false_iff_not, gj, ij, cj, jj, aj, sj, leapS] at *); first | done | omega))); (case e1 => first | exact Hint.eq (by with_reducible assumption) | exact rfl); (case e2 => first | exact Hint.eq (by with_reducible assumption) | exact rfl); intro D9 t9 u9 h9 tk9 F9 N9; (try dsimp only); (try k_fold))))
local macro_rules | `(tactic| walk_at "call ref") => `(tactic| (k_here; (with_reducible show wpAny _ _ (PySem.call (Value.ref 304) [Value.int _ _, Value.ref 283]) _ _ _); k_dflt (refine' use (c_offh_plain1 _ _ _ _ ?h0 ?e1 ?e2) ?k1 ?k2 ?k3 ?k4 ?k5 ?kK ?kd ?ku ?_; (case k1 => k_asm); (case k2 => k_asm); (case k3 => k_asm); (case k4 => k_asm); (case k5 => k_asm); (case kK => first | exact rfl | assumption); (case kd => first | ((with_reducible refine' room_dp ?rdh ?rdk); (case rdh => with_reducible assumption); (case rdk => decide)) | ktr_room); (case ku => first | ((with_reducible refine' room_un ?ruh ?ruk); (case ruh => with_reducible assumption); (case ruk => decide)) | ktr_units); (case h0 => (law_clear; first | omega | ((try simp only [decide_eq_true_eq, decide_eq_false_iff_not, gj, ij, cj, jj, aj, sj, leapS] at *); first | done | omega))); (case e1 => first | exact Hint.eq (by with_reducible assumption) | exact rfl); (case e2 => first | exact Hint.eq (by with_reducible assumption) | exact rfl); intro D9 t9 u9 h9 tk9 F9 N9; (try dsimp only); (try k_fold))))
local macro_rules | `(tactic| walk_at "call ref") => `(tactic| (k_here; (with_reducible show wpAny _ _ (PySem.call (Value.ref 304) [Value.int _ _, Value.ref _]) _ _ _); k_dflt (refine' use (c_offh_list _ _ _ _ _ _ _ _ ?hi ?hl ?h0 ?hs ?e1 ?e2) ?k1 ?k2 ?k3 ?k4 ?k5 ?kK ?kd ?ku ?_; (case k1 => k_asm); (case k2 => k_asm); (case k3 => k_asm); (case k4 => k_asm); (case k5 => k_asm); (case kK => first | exact rfl | assumption); (case kd => first | ((with_reducible refine' room_dp ?rdh ?rdk); (case rdh => with_reducible assumption); (case rdk => decide)) | ktr_room); (case ku => first | ((with_reducible refine' room_un ?ruh ?ruk); (case ruh => with_reducible assumption); (case ruk => decide)) | ktr_units); (case hi => assumption); (case hl => first | exact szs_len _ _ | omega); (case h0 => (law_clear; first | omega | ((try simp only [decide_eq_true_eq, decide_eq_false_iff_not, gj, ij, cj, jj, aj, sj, leapS] at *); first | done | omega))); (case hs => first | assumption | (rw [szs_sum]; omega) | (rw [szs_sum]; law_clear; (try simp only [decide_eq_true_eq, decide_eq_false_iff_not, ge_iff_le, Int.not_le] at *); omega)); (case e1 => first | exact Hint.eq (by with_reducible assumption) | exact rfl); (case e2 => first | exact Hint.eq (by with_reducible assumption) | exact rfl); rotate_right; refine' ⟨?mL, ?_⟩; (case mL => k_mem); intro D9 t9 u9 h9 tk9 F9 N9; (try dsimp only); (try k_fold))))
local macro_rules | `(tactic| walk_at "eval Name") => `(tactic| (k_here; k_dflt (first | (name_kind "local"; refine' nameX_L ?F ?v ?_ ?a ?b ?c; (case F => k_asm); (case a => kernel_rfl); (case b => kernel_rfl); (case c => kernel_rfl); (case v => first | (refine' look_of ?gg ?ge; (case gg => (repeat (first | (with_reducible exact guess_hit_l) | (with_reducible apply guess_miss_l) | (with_reducible exact guess_hit_if) | ((with_reducible show Guess (@ite _ _ _ _ _) _); (with_reducible apply guess_miss_if))))); (case ge => kernel_rfl)) | exact rfl)) | (name_kind "globalImplicit"; refine' nameX_K ?F ?X ?T ?e ?_ ?a ?b ?c; (case F => k_asm); (case X => k_asm); (case T => k_asm); (case e => with_reducible (first | exact gn_law_off _ | exact gn_law_year _ | exact gn_law_sizes _)); (case a => kernel_rfl); (case b => kernel_rfl); (case c => kernel_rfl)) | (name_kind "globalImplicit"; refine' nameX_B ?F ?X ?T ?e ?v ?n ?_ ?a ?b ?c; (case F => k_asm); (case X => k_asm); (case T => k_asm); (case e => with_reducible (first | exact gb_divmod _ | exact gb_range _)); (case v => with_reducible (first | exact bb_divmod | exact bb_range)); (case a => kernel_rfl); (case b => kernel_rfl); (case n => decide); (case c => kernel_rfl)))))
local macro_rules | `(tactic| walk_at "exec For Name Call cons nil") => `(tactic| (k_here; (rename Fr _ _ _ _ => lF'); (with_unfolding_all refine' For_invVF lF' ?k1 ?k2 ?_; (case k1 => exact rfl); (case k2 => exact rfl); k_whole)))
set_option maxRecDepth 100000 in
set_option maxHeartbeats 8000000 in
theorem c_roman (day : Int) (t : Tok) (hd : -10000000000 < day ∧ day < 10000000000) :
    Claim 337 [.int day t] 3 (RetT3 (romY day) (romM day) (romD day)) := by
  refine gate_out ?_
  simp (disch := (k_dflt (
  intro prog w p loose mean mg mb dp un gd cn cs a ccd cl outer A₀ base h₀ L mm news s Q E B F X N T hk hdp hun hret
  obtain ⟨L1, hL⟩ : ∃ L1, (day - 1721426) / 146097 = L1 := ⟨_, rfl⟩
  obtain ⟨rr, hr⟩ : ∃ rr, (day - 1721426) % 146097 = rr := ⟨_, rfl⟩
  have hrb : 0 ≤ rr ∧ rr < 146097 ∧ day - 1721426 = 146097 * L1 + rr := by omega
  have e1 : Hint ((day - 1721426) / 146097) L1 := ⟨hL⟩
  have e2 : Hint ((day - 1721426) % 146097) rr := ⟨hr⟩
  (refine wpAny_call ?_; (k_dflt cell_enter); (try ((rename Fr _ _ _ _ => F8); (first | (have F9 := Fr_as F8 (m' := fun y9 => List.lookup y9 [(Str.ofString "day", (.int day t : Value))]) rfl) | (have F9 := Fr_as F8 (m' := fun y9 => List.lookup y9 [(Str.ofString "day", (.int day t : Value))]) rfl)); clear F8)); (k_with "pyIter ref" => first | k_state_short (fun pre rest year => RomA rr (400 * L1 + 1) pre rest year) "rest" "year" | k_state_short (fun pre rest year => RomB (rr - 36524 * min 3 (rr / 36524)) (400 * L1 + 1 + 100 * min 3 (rr / 36524)) pre rest year) "rest" "year"); (k_with "exec While Compare cons nil" => k_while (fun _ rest year => romY day - 3 ≤ year ∧ year ≤ romY day ∧ 0 ≤ rest ∧ RomInv day rest year) (fun _ rest year => (romY day + 1 - year).toNat) "rest" "year"); (k_with "state" => first | exact romA_start hrb.1 | exact romB_start' (by assumption) (by decide) hrb.1 | exact romA_yes (by assumption) (by omega) | exact romA_no (by assumption) (by omega) | exact romB_yes (by assumption) (by omega) | exact romB_no (by assumption) (by omega) | exact romI_start hL hr (by assumption) (by decide) | exact rom_turn (by assumption) (by omega) (by omega) (by omega)); k_steps; all_goals (have rf := rom_fin (by assumption) (by omega) (by omega) (by law_clear; (try simp only [decide_eq_true_eq, decide_eq_false_iff_not, ge_iff_le, not_le] at *); omega); refine' ret_T3 hret ?e1 ?e2 ?e3 ?F ?NM ?hs; (case F => k_asm); (case NM => (refine' ⟨?n1, ?n2⟩; (case n1 => k_asm); (case n2 => k_mem))); (case hs => (first | (intro p9 hp9; (repeat (with_reducible refine List.mem_cons_of_mem _ ?_)); exact hp9) | kcj_all)); (case e1 => exact rf.1); (case e2 => exact rf.2.1); (case e3 => exact rf.2.2)))))) only [↓gate_true]
end
section
local macro_rules | `(tactic| walk_at "call ref") => `(tactic| (k_here; (with_reducible show wpAny _ _ (PySem.call (Value.ref 79) [Value.int _ _]) _ _ _); k_dflt (refine' use (c_leap_isl _ _) ?k1 ?k2 ?k3 ?k4 ?k5 ?kK ?kd ?ku ?_; (case k1 => k_asm); (case k2 => k_asm); (case k3 => k_asm); (case k4 => k_asm); (case k5 => k_asm); (case kK => first | exact rfl | assumption); (case kd => first | ((with_reducible refine' room_dp ?rdh ?rdk); (case rdh => with_reducible assumption); (case rdk => decide)) | ktr_room); (case ku => first | ((with_reducible refine' room_un ?ruh ?ruk); (case ruh => with_reducible assumption); (case ruk => decide)) | ktr_units); intro t9 h9 tk9 F9 N9; (try dsimp only); (try k_fold))))
local macro_rules | `(tactic| walk_at "call ref") => `(tactic| (k_here; (with_reducible show wpAny _ _ (PySem.call (Value.ref 86) [Value.int _ _, Value.int _ _, Value.int _ _]) _ _ _); k_dflt (refine' use (c_tojd_isl _ _ _ _ _ _ ?hy ?hm ?hd) ?k1 ?k2 ?k3 ?k4 ?k5 ?kK ?kd ?ku ?_; (case k1 => k_asm); (case k2 => k_asm); (case k3 => k_asm); (case k4 => k_asm); (case k5 => k_asm); (case kK => first | exact rfl | assumption); (case kd => first | ((with_reducible refine' room_dp ?rdh ?rdk); (case rdh => with_reducible assumption); (case rdk => decide)) | ktr_room); (case ku => first | ((with_reducible refine' room_un ?ruh ?ruk); (case ruh => with_reducible assumption); (case ruk => decide)) | ktr_units); (case hy => (law_clear; first | omega | ((try simp only [decide_eq_true_eq, decide_eq_false_iff_not, gj, ij, cj, jj, aj, sj, leapS] at *); first | done | omega))); (case hm => (law_clear; first | omega | ((try simp only [decide_eq_true_eq, decide_eq_false_iff_not, gj, ij, cj, jj, aj, sj, leapS] at *); first | done | omega))); (case hd => (law_clear; first | omega | ((try simp only [decide_eq_true_eq, decide_eq_false_iff_not, gj, ij, cj, jj, aj, sj, leapS] at *); first | done | omega))); intro t9 h9 tk9 F9 N9; (try dsimp only); (try k_fold))))
local macro_rules | `(tactic| walk_at "call ref") => `(tactic| (k_here; (with_reducible show wpAny _ _ (PySem.call (Value.ref 93) [Value.float (H (2 * _ - 1)) _]) _ _ _); k_dflt (refine' use (c_fromjd_isl _ _ ?hd) ?k1 ?k2 ?k3 ?k4 ?k5 ?kK ?kd ?ku ?_; (case k1 => k_asm); (case k2 => k_asm); (case k3 => k_asm); (case k4 => k_asm); (case k5 => k_asm); (case kK => first | exact rfl | assumption); (case kd => first | ((with_reducible refine' room_dp ?rdh ?rdk); (case rdh => with_reducible assumption); (case rdk => decide)) | ktr_room); (case ku => first | ((with_reducible refine' room_un ?ruh ?ruk); (case ruh => with_reducible assumption); (case ruk => decide)) | ktr_units); (case hd => (law_clear; first | omega | ((try simp only [decide_eq_true_eq, decide_eq_false_iff_not, gj, ij, cj, jj, aj, sj, leapS] at *); first | done | omega))); intro D9 t9 u9 v9 h9 tk9 F9 N9; (try dsimp only); (try k_fold))))
local macro_rules | `(tactic| walk_at "call ref") => `(tactic| (k_here; (with_reducible show wpAny _ _ (PySem.call (Value.ref 86) [Value.int (islY _) _, Value.int (islM _) _, Value.int (islD _) _]) _ _ _); k_dflt (refine' use (c_tojd_isl_at _ _ _ _ ?hd) ?k1 ?k2 ?k3 ?k4 ?k5 ?kK ?kd ?ku ?_; (case k1 => k_asm); (case k2 => k_asm); (case k3 => k_asm); (case k4 => k_asm); (case k5 => k_asm); (case kK => first | exact rfl | assumption); (case kd => first | ((with_reducible refine' room_dp ?rdh ?rdk); (case rdh => with_reducible assumption); (case rdk => decide)) | ktr_room); (case ku => first | ((with_reducible refine' room_un ?ruh ?ruk); (case ruh => with_reducible assumption); (case ruk => decide)) | ktr_units); (case hd => (law_clear; first | omega | ((try simp only [decide_eq_true_eq, decide_eq_false_iff_not, gj, ij, cj, jj, aj, sj, leapS] at *); first | done | omega))); intro t9 h9 tk9 F9 N9; (try dsimp only); (try k_fold))))
local macro_rules | `(tactic| walk_at "call ref") => `(tactic| (k_here; (with_reducible show wpAny _ _ (PySem.call (Value.ref 100) [Value.int (romY _) _, Value.int (romM _) _, Value.int (romD _) _]) _ _ _); k_dflt (refine' use (c_fromgreg_isl _ _ _ _ ?hd) ?k1 ?k2 ?k3 ?k4 ?k5 ?kK ?kd ?ku ?_; (case k1 => k_asm); (case k2 => k_asm); (case k3 => k_asm); (case k4 => k_asm); (case k5 => k_asm); (case kK => first | exact rfl | assumption); (case kd => first | ((with_reducible refine' room_dp ?rdh ?rdk); (case rdh => with_reducible assumption); (case rdk => decide)) | ktr_room); (case ku => first | ((with_reducible refine' room_un ?ruh ?ruk); (case ruh => with_reducible assumption); (case ruk => decide)) | ktr_units); (case hd => (law_clear; first | omega | ((try simp only [decide_eq_true_eq, decide_eq_false_iff_not, gj, ij, cj, jj, aj, sj, leapS] at *); first | done | omega))); intro D9 t9 u9 v9 h9 tk9 F9 N9; (try dsimp only); (try k_fold))))
local macro_rules | `(tactic| walk_at "call ref") => `(tactic| (k_here; (with_reducible show wpAny _ _ (PySem.call (Value.ref 107) [Value.int (islY _) _, Value.int (islM _) _, Value.int (islD _) _]) _ _ _); k_dflt (refine' use (c_togreg_isl _ _ _ _ ?hd) ?k1 ?k2 ?k3 ?k4 ?k5 ?kK ?kd ?ku ?_; (case k1 => k_asm); (case k2 => k_asm); (case k3 => k_asm); (case k4 => k_asm); (case k5 => k_asm); (case kK => first | exact rfl | assumption); (case kd => first | ((with_reducible refine' room_dp ?rdh ?rdk); (case rdh => with_reducible assumption); (case rdk => decide)) | ktr_room); (case ku => first | ((with_reducible refine' room_un ?ruh ?ruk); (case ruh => with_reducible assumption); (case ruk => decide)) | ktr_units); (case hd => (law_clear; first | omega | ((try simp only [decide_eq_true_eq, decide_eq_false_iff_not, gj, ij, cj, jj, aj, sj, leapS] at *); first | done | omega))); intro D9 t9 u9 v9 h9 tk9 F9 N9; (try dsimp only); (try k_fold))))
local macro_rules | `(tactic| walk_at "call ref") => `(tactic| (k_here; (with_reducible show wpAny _ _ (PySem.call (Value.ref 114) [Value.int _ _, Value.int _ _]) _ _ _); k_dflt (refine' use (c_ml_isl _ _ _ _ ?hm) ?k1 ?k2 ?k3 ?k4 ?k5 ?kK ?kd ?ku ?_; (case k1 => k_asm); (case k2 => k_asm); (case k3 => k_asm); (case k4 => k_asm); (case k5 => k_asm); (case kK => first | exact rfl | assumption); (case kd => first | ((with_reducible refine' room_dp ?rdh ?rdk); (case rdh => with_reducible assumption); (case rdk => decide)) | ktr_room); (case ku => first | ((with_reducible refine' room_un ?ruh ?ruk); (case ruh => with_reducible assumption); (case ruk => decide)) | ktr_units); (case hm => (law_clear; first | omega | ((try simp only [decide_eq_true_eq, decide_eq_false_iff_not, gj, ij, cj, jj, aj, sj, leapS] at *); first | done | omega))); intro t9 h9 tk9 F9 N9; (try dsimp only); (try k_fold))))
local macro_rules | `(tactic| walk_at "call ref") => `(tactic| (k_here; (with_reducible show wpAny _ _ (PySem.call (Value.ref 297) [Value.int _ _]) _ _ _); k_dflt (refine' use (c_jd _ _ ?hd) ?k1 ?k2 ?k3 ?k4 ?k5 ?kK ?kd ?ku ?_; (case k1 => k_asm); (case k2 => k_asm); (case k3 => k_asm); (case k4 => k_asm); (case k5 => k_asm); (case kK => first | exact rfl | assumption); (case kd => first | ((with_reducible refine' room_dp ?rdh ?rdk); (case rdh => with_reducible assumption); (case rdk => decide)) | ktr_room); (case ku => first | ((with_reducible refine' room_un ?ruh ?ruk); (case ruh => with_reducible assumption); (case ruk => decide)) | ktr_units); (case hd => (law_clear; first | omega | ((try simp only [decide_eq_true_eq, decide_eq_false_iff_not, gj, ij, cj, jj, aj, sj, leapS] at *); first | done | omega))); intro t9 h9 tk9 F9 N9; (try dsimp only); (try k_fold))))
local macro_rules | `(tactic| walk_at "call ref") => `(tactic| (k_here; (with_reducible show wpAny _ _ (PySem.call (Value.ref 318) [Value.int _ _, Value.int 1948440 _, Value.int 1 _, Value.ref 280, Value.int 0 _]) _ _ _); k_dflt (refine' use (c_date_isl _ _ _ _ _ ?hd) ?k1 ?k2 ?k3 ?k4 ?k5 ?kK ?kd ?ku ?_; (case k1 => k_asm); (case k2 => k_asm); (case k3 => k_asm); (case k4 => k_asm); (case k5 => k_asm); (case kK => first | exact rfl | assumption); (case kd => first | ((with_reducible refine' room_dp ?rdh ?rdk); (case rdh => with_reducible assumption); (case rdk => decide)) | ktr_room); (case ku => first | ((with_reducible refine' room_un ?ruh ?ruk); (case ruh => with_reducible assumption); (case ruk => decide)) | ktr_units); (case hd => (law_clear; first | omega | ((try simp only [decide_eq_true_eq, decide_eq_false_iff_not, gj, ij, cj, jj, aj, sj, leapS] at *); first | done | omega))); intro D9 T9 L9 t9 u9 v9 vs9 n9 h9 tk9 hi9 F9 N9; (try dsimp only); (try k_fold))))
local macro_rules | `(tactic| walk_at "call ref") => `(tactic| (k_here; (with_reducible show wpAny _ _ (PySem.call (Value.ref 318) [Value.int _ _, Value.int 1825030 _, Value.int 1 _, Value.ref 281, Value.int 1 _]) _ _ _); k_dflt (refine' use (c_date_cop _ _ _ _ _ ?hd) ?k1 ?k2 ?k3 ?k4 ?k5 ?kK ?kd ?ku ?_; (case k1 => k_asm); (case k2 => k_asm); (case k3 => k_asm); (case k4 => k_asm); (case k5 => k_asm); (case kK => first | exact rfl | assumption); (case kd => first | ((with_reducible refine' room_dp ?rdh ?rdk); (case rdh => with_reducible assumption); (case rdk => decide)) | ktr_room); (case ku => first | ((with_reducible refine' room_un ?ruh ?ruk); (case ruh => with_reducible assumption); (case ruk => decide)) | ktr_units); (case hd => (law_clear; first | omega | ((try simp only [decide_eq_true_eq, decide_eq_false_iff_not, gj, ij, cj, jj, aj, sj, leapS] at *); first | done | omega))); intro D9 T9 L9 t9 u9 v9 vs9 n9 h9 tk9 hi9 F9 N9; (try dsimp only); (try k_fold))))
local macro_rules | `(tactic| walk_at "call ref") => `(tactic| (k_here; (with_reducible show wpAny _ _ (PySem.call (Value.ref 318) [Value.int _ _, Value.int 1721424 _, Value.int 1 _, Value.ref 282, Value.int 2 _]) _ _ _); k_dflt (refine' use (c_date_lat _ _ _ _ _ ?hd) ?k1 ?k2 ?k3 ?k4 ?k5 ?kK ?kd ?ku ?_; (case k1 => k_asm); (case k2 => k_asm); (case k3 => k_asm); (case k4 => k_asm); (case k5 => k_asm); (case kK => first | exact rfl | assumption); (case kd => first | ((with_reducible refine' room_dp ?rdh ?rdk); (case rdh => with_reducible assumption); (case rdk => decide)) | ktr_room); (case ku => first | ((with_reducible refine' room_un ?ruh ?ruk); (case ruh => with_reducible assumption); (case ruk => decide)) | ktr_units); (case hd => (law_clear; first | omega | ((try simp only [decide_eq_true_eq, decide_eq_false_iff_not, gj, ij, cj, jj, aj, sj, leapS] at *); first | done | omega))); intro D9 T9 L9 t9 u9 v9 vs9 n9 h9 tk9 hi9 F9 N9; (try dsimp only); (try k_fold))))
local macro_rules | `(tactic| walk_at "call ref") => `(tactic| (k_here; (with_reducible show wpAny _ _ (PySem.call (Value.ref 318) [Value.int _ _, Value.int 1922868 _, Value.int 1 _, Value.ref 283, Value.int 1 _]) _ _ _); k_dflt (refine' use (c_date_arm _ _ _ _ _ ?hd) ?k1 ?k2 ?k3 ?k4 ?k5 ?kK ?kd ?ku ?_; (case k1 => k_asm); (case k2 => k_asm); (case k3 => k_asm); (case k4 => k_asm); (case k5 => k_asm); (case kK => first | exact rfl | assumption); (case kd => first | ((with_reducible refine' room_dp ?rdh ?rdk); (case rdh => with_reducible assumption); (case rdk => decide)) | ktr_room); (case ku => first | ((with_reducible refine' room_un ?ruh ?ruk); (case ruh => with_reducible assumption); (case ruk => decide)) | ktr_units); (case hd => (law_clear; first | omega | ((try simp only [decide_eq_true_eq, decide_eq_false_iff_not, gj, ij, cj, jj, aj, sj, leapS] at *); first | done | omega))); intro D9 T9 L9 t9 u9 v9 vs9 n9 h9 tk9 hi9 F9 N9; (try dsimp only); (try k_fold))))
local macro_rules | `(tactic| walk_at "call ref") => `(tactic| (k_here; (with_reducible show wpAny _ _ (PySem.call (Value.ref 318) [Value.int _ _, Value.int 2117212 _, Value.int 533 _, Value.ref 282, Value.int 1 _]) _ _ _); k_dflt (refine' use (c_date_sar _ _ _ _ _ ?hd) ?k1 ?k2 ?k3 ?k4 ?k5 ?kK ?kd ?ku ?_; (case k1 => k_asm); (case k2 => k_asm); (case k3 => k_asm); (case k4 => k_asm); (case k5 => k_asm); (case kK => first | exact rfl | assumption); (case kd => first | ((with_reducible refine' room_dp ?rdh ?rdk); (case rdh => with_reducible assumption); (case rdk => decide)) | ktr_room); (case ku => first | ((with_reducible refine' room_un ?ruh ?ruk); (case ruh => with_reducible assumption); (case ruk => decide)) | ktr_units); (case hd => (law_clear; first | omega | ((try simp only [decide_eq_true_eq, decide_eq_false_iff_not, gj, ij, cj, jj, aj, sj, leapS] at *); first | done | omega))); intro D9 T9 L9 t9 u9 v9 vs9 n9 h9 tk9 hi9 F9 N9; (try dsimp only); (try k_fold))))
local macro_rules | `(tactic| walk_at "call ref") => `(tactic| (k_here; (with_reducible show wpAny _ _ (PySem.call (Value.ref 344) [Value.ref _, Value.ref _]) _ _ _); k_dflt (refine' use (c_next _ _ _ _ _ _ _ _ _ _ _ _ _ _ ?hi ?hl ?hm ?hx) ?k1 ?k2 ?k3 ?k4 ?k5 ?kK ?kd ?ku ?_; (case k1 => k_asm); (case k2 => k_asm); (case k3 => k_asm); (case k4 => k_asm); (case k5 => k_asm); (case kK => first | exact rfl | assumption); (case kd => first | ((with_reducible refine' room_dp ?rdh ?rdk); (case rdh => with_reducible assumption); (case rdk => decide)) | ktr_room); (case ku => first | ((with_reducible refine' room_un ?ruh ?ruk); (case ruh => with_reducible assumption); (case ruk => decide)) | ktr_units); (case hi => assumption); (case hx => assumption); (case hl => first | exact szs_len _ _ | omega); (case hm => (law_clear; first | omega | ((try simp only [decide_eq_true_eq, decide_eq_false_iff_not, gj, ij, cj, jj, aj, sj, leapS] at *); first | done | omega))); rotate_right; refine' ⟨?mT, ?_⟩; (case mT => first | k_mem | ((repeat (refine' List.Mem.tail _ ?_)); assumption)); refine' ⟨?mL, ?_⟩; (case mL => k_mem); intro D9 t9 u9 v9 h9 tk9 F9 N9; (try dsimp only); (try k_fold))))
local macro_rules | `(tactic| walk_at "eval Name") => `(tactic| (k_here; k_dflt (first | (name_kind "local"; refine' nameX_L ?F ?v ?_ ?a ?b ?c; (case F => k_asm); (case a => kernel_rfl); (case b => kernel_rfl); (case c => kernel_rfl); (case v => first | (refine' look_of ?gg ?ge; (case gg => (repeat (first | (with_reducible exact guess_hit_l) | (with_reducible apply guess_miss_l) | (with_reducible exact guess_hit_if) | ((with_reducible show Guess (@ite _ _ _ _ _) _); (with_reducible apply guess_miss_if))))); (case ge => kernel_rfl)) | exact rfl)) | (name_kind "globalImplicit"; refine' nameX_K ?F ?X ?T ?e ?_ ?a ?b ?c; (case F => k_asm); (case X => k_asm); (case T => k_asm); (case e => with_reducible (first | exact gn_law_date _ | exact gn_law_thirty _ | exact gn_law_next _ | exact gn_from_jd_islamic _ | exact gn_to_jd_islamic _ | exact gn_law_jd _ | exact gn_leap_islamic _ | exact gn_month_length_islamic _ | exact gn_to_gregorian_islamic _ | exact gn_from_gregorian_islamic _)); (case a => kernel_rfl); (case b => kernel_rfl); (case c => kernel_rfl)))))
set_option maxRecDepth 100000 in
set_option maxHeartbeats 8000000 in
theorem c_law_isl (day : Int) (R : Addr) (t u v z : Tok) (hd : -9000000000 < day ∧ day < 9000000000) :
    Claim 351 [.int day t, .ref R] 9 (WithT R (tup3 (romY day) u (romM day) v (romD day) z) (RetV fun _ => .bool true)) := by
  refine gate_out ?_
  simp (disch := (k_dflt (
  intro prog w p loose mean mg mb dp un gd cn cs a ccd cl outer A₀ base h₀ L mm news s Q E B F X N T hk hdp hun hret
  obtain ⟨hR, hret⟩ := hret
  have hlen : ((szs 0 (islS day)).length : Int) = 12 := rfl
  have hnx := isl_next day
  have h1 : Hint ((szs 0 (islS day)).getD (islM day - 1).toNat 0) (mli (islY day) (islM day)) := ⟨isl_ml day⟩
  have h2 : Hint ((szs 0 (islS day)).getD (Int.toNat 11) 0) (islS day - 325) := ⟨rfl⟩
  have hY : (islS day = 355 ∧ (11 * islY day + 14) % 30 < 11) ∨ (islS day = 354 ∧ 11 ≤ (11 * islY day + 14) % 30) := (isl_year day).2.2.2.2
  have hM : 1 ≤ islM day ∧ islM day ≤ 12 := ⟨(isl_month day).1, (isl_month day).2.1⟩
  (refine wpAny_call ?_; (k_dflt cell_enter); (try ((rename Fr _ _ _ _ => F8); (first | (have F9 := Fr_as F8 (m' := fun y9 => List.lookup y9 [(Str.ofString "roman", (.ref R : Value)), (Str.ofString "day", (.int day t : Value))]) rfl) | (have F9 := Fr_as F8 (m' := fun y9 => List.lookup y9 [(Str.ofString "day", (.int day t : Value)), (Str.ofString "roman", (.ref R : Value))]) rfl)); clear F8));  k_steps; all_goals (first | (((first | (with_reducible refine' hret 0 ?_ ?_ ?cbF ?cbN) | (with_reducible refine' hret _ ?_ ?_ ?cbF ?cbN))); (case cbF => k_asm); (case cbN => first | (with_reducible assumption) | (refine' cb_drop ?cbM ?cbS; (case cbM => assumption); (case cbS => (first | (intro p9 hp9; (repeat (with_reducible refine List.mem_cons_of_mem _ ?_)); exact hp9) | kcj_all))))) | cb_end hret))))) only [↓gate_true]
end
section
local macro_rules | `(tactic| walk_at "pad") => `(tactic| fail)
local macro_rules | `(tactic| walk_at "call ref") => `(tactic| (k_here; (with_reducible show wpAny _ _ (PySem.call (Value.ref 121) [Value.int _ _]) _ _ _); k_dflt (refine' use (c_leap_cop _ _) ?k1 ?k2 ?k3 ?k4 ?k5 ?kK ?kd ?ku ?_; (case k1 => k_asm); (case k2 => k_asm); (case k3 => k_asm); (case k4 => k_asm); (case k5 => k_asm); (case kK => first | exact rfl | assumption); (case kd => first | ((with_reducible refine' room_dp ?rdh ?rdk); (case rdh => with_reducible assumption); (case rdk => decide)) | ktr_room); (case ku => first | ((with_reducible refine' room_un ?ruh ?ruk); (case ruh => with_reducible assumption); (case ruk => decide)) | ktr_units); intro t9 h9 tk9 F9 N9; (try dsimp only); (try k_fold))))
local macro_rules | `(tactic| walk_at "call ref") => `(tactic| (k_here; (with_reducible show wpAny _ _ (PySem.call (Value.ref 128) [Value.int _ _, Value.int _ _, Value.int _ _]) _ _ _); k_dflt (refine' use (c_tojd_cop _ _ _ _ _ _ ?hy ?hm ?hd) ?k1 ?k2 ?k3 ?k4 ?k5 ?kK ?kd ?ku ?_; (case k1 => k_asm); (case k2 => k_asm); (case k3 => k_asm); (case k4 => k_asm); (case k5 => k_asm); (case kK => first | exact rfl | assumption); (case kd => first | ((with_reducible refine' room_dp ?rdh ?rdk); (case rdh => with_reducible assumption); (case rdk => decide)) | ktr_room); (case ku => first | ((with_reducible refine' room_un ?ruh ?ruk); (case ruh => with_reducible assumption); (case ruk => decide)) | ktr_units); (case hy => (law_clear; first | omega | ((try simp only [decide_eq_true_eq, decide_eq_false_iff_not, gj, ij, cj, jj, aj, sj, leapS] at *); first | done | omega))); (case hm => (law_clear; first | omega | ((try simp only [decide_eq_true_eq, decide_eq_false_iff_not, gj, ij, cj, jj, aj, sj, leapS] at *); first | done | omega))); (case hd => (law_clear; first | omega | ((try simp only [decide_eq_true_eq, decide_eq_false_iff_not, gj, ij, cj, jj, aj, sj, leapS] at *); first | done | omega))); intro t9 h9 tk9 F9 N9; (try dsimp only); (try k_fold))))
local macro_rules | `(tactic| walk_at "call ref") => `(tactic| (k_here; (with_reducible show wpAny _ _ (PySem.call (Value.ref 128) [Value.int (copY _) _, Value.int (copM _) _, Value.int (copD _) _]) _ _ _); k_dflt (refine' use (c_tojd_cop_at _ _ _ _ ?hd) ?k1 ?k2 ?k3 ?k4 ?k5 ?kK ?kd ?ku ?_; (case k1 => k_asm); (case k2 => k_asm); (case k3 => k_asm); (case k4 => k_asm); (case k5 => k_asm); (case kK => first | exact rfl | assumption); (case kd => first | ((with_reducible refine' room_dp ?rdh ?rdk); (case rdh => with_reducible assumption); (case rdk => decide)) | ktr_room); (case ku => first | ((with_reducible refine' room_un ?ruh ?ruk); (case ruh => with_reducible assumption); (case ruk => decide)) | ktr_units); (case hd => (law_clear; first | omega | ((try simp only [decide_eq_true_eq, decide_eq_false_iff_not, gj, ij, cj, jj, aj, sj, leapS] at *); first | done | omega))); intro t9 h9 tk9 F9 N9; (try dsimp only); (try k_fold))))
local macro_rules | `(tactic| walk_at "call ref") => `(tactic| (k_here; (with_reducible show wpAny _ _ (PySem.call (Value.ref 135) [Value.float (H (2 * _ - 1)) _]) _ _ _); k_dflt (refine' use (c_fromjd_cop _ _ ?hd) ?k1 ?k2 ?k3 ?k4 ?k5 ?kK ?kd ?ku ?_; (case k1 => k_asm); (case k2 => k_asm); (case k3 => k_asm); (case k4 => k_asm); (case k5 => k_asm); (case kK => first | exact rfl | assumption); (case kd => first | ((with_reducible refine' room_dp ?rdh ?rdk); (case rdh => with_reducible assumption); (case rdk => decide)) | ktr_room); (case ku => first | ((with_reducible refine' room_un ?ruh ?ruk); (case ruh => with_reducible assumption); (case ruk => decide)) | ktr_units); (case hd => (law_clear; first | omega | ((try simp only [decide_eq_true_eq, decide_eq_false_iff_not, gj, ij, cj, jj, aj, sj, leapS] at *); first | done | omega))); intro D9 t9 u9 v9 h9 tk9 F9 N9; (try dsimp only); (try k_fold))))
local macro_rules | `(tactic| walk_at "call ref") => `(tactic| (k_here; (with_reducible show wpAny _ _ (PySem.call (Value.ref 142) [Value.int (copY _) _, Value.int (copM _) _, Value.int (copD _) _]) _ _ _); k_dflt (refine' use (c_togreg_cop _ _ _ _ ?hd) ?k1 ?k2 ?k3 ?k4 ?k5 ?kK ?kd ?ku ?_; (case k1 => k_asm); (case k2 => k_asm); (case k3 => k_asm); (case k4 => k_asm); (case k5 => k_asm); (case kK => first | exact rfl | assumption); (case kd => first | ((with_reducible refine' room_dp ?rdh ?rdk); (case rdh => with_reducible assumption); (case rdk => decide)) | ktr_room); (case ku => first | ((with_reducible refine' room_un ?ruh ?ruk); (case ruh => with_reducible assumption); (case ruk => decide)) | ktr_units); (case hd => (law_clear; first | omega | ((try simp only [decide_eq_true_eq, decide_eq_false_iff_not, gj, ij, cj, jj, aj, sj, leapS] at *); first | done | omega))); intro D9 t9 u9 v9 h9 tk9 F9 N9; (try dsimp only); (try k_fold))))
local macro_rules | `(tactic| walk_at "call ref") => `(tactic| (k_here; (with_reducible show wpAny _ _ (PySem.call (Value.ref 149) [Value.int (romY _) _, Value.int (romM _) _, Value.int (romD _) _]) _ _ _); k_dflt (refine' use (c_fromgreg_cop _ _ _ _ ?hd) ?k1 ?k2 ?k3 ?k4 ?k5 ?kK ?kd ?ku ?_; (case k1 => k_asm); (case k2 => k_asm); (case k3 => k_asm); (case k4 => k_asm); (case k5 => k_asm); (case kK => first | exact rfl | assumption); (case kd => first | ((with_reducible refine' room_dp ?rdh ?rdk); (case rdh => with_reducible assumption); (case rdk => decide)) | ktr_room); (case ku => first | ((with_reducible refine' room_un ?ruh ?ruk); (case ruh => with_reducible assumption); (case ruk => decide)) | ktr_units); (case hd => (law_clear; first | omega | ((try simp only [decide_eq_true_eq, decide_eq_false_iff_not, gj, ij, cj, jj, aj, sj, leapS] at *); first | done | omega))); intro D9 t9 u9 v9 h9 tk9 F9 N9; (try dsimp only); (try k_fold))))
local macro_rules | `(tactic| walk_at "call ref") => `(tactic| (k_here; (with_reducible show wpAny _ _ (PySem.call (Value.ref 156) [Value.int _ _, Value.int _ _]) _ _ _); k_dflt (refine' use (c_ml_cop _ _ _ _ ?hm) ?k1 ?k2 ?k3 ?k4 ?k5 ?kK ?kd ?ku ?_; (case k1 => k_asm); (case k2 => k_asm); (case k3 => k_asm); (case k4 => k_asm); (case k5 => k_asm); (case kK => first | exact rfl | assumption); (case kd => first | ((with_reducible refine' room_dp ?rdh ?rdk); (case rdh => with_reducible assumption); (case rdk => decide)) | ktr_room); (case ku => first | ((with_reducible refine' room_un ?ruh ?ruk); (case ruh => with_reducible assumption); (case ruk => decide)) | ktr_units); (case hm => (law_clear; first | omega | ((try simp only [decide_eq_true_eq, decide_eq_false_iff_not, gj, ij, cj, jj, aj, sj, leapS] at *); first | done | omega))); intro t9 h9 tk9 F9 N9; (try dsimp only); (try k_fold))))
local macro_rules | `(tactic| walk_at "call ref") => `(tactic| (k_here; (with_reducible show wpAny _ _ (PySem.call (Value.ref 297) [Value.int _ _]) _ _ _); k_dflt (refine' use (c_jd _ _ ?hd) ?k1 ?k2 ?k3 ?k4 ?k5 ?kK ?kd ?ku ?_; (case k1 => k_asm); (case k2 => k_asm); (case k3 => k_asm); (case k4 => k_asm); (case k5 => k_asm); (case kK => first | exact rfl | assumption); (case kd => first | ((with_reducible refine' room_dp ?rdh ?rdk); (case rdh => with_reducible assumption); (case rdk => decide)) | ktr_room); (case ku => first | ((with_reducible refine' room_un ?ruh ?ruk); (case ruh => with_reducible assumption); (case ruk => decide)) | ktr_units); (case hd => (law_clear; first | omega | ((try simp only [decide_eq_true_eq, decide_eq_false_iff_not, gj, ij, cj, jj, aj, sj, leapS] at *); first | done | omega))); intro t9 h9 tk9 F9 N9; (try dsimp only); (try k_fold))))
local macro_rules | `(tactic| walk_at "call ref") => `(tactic| (k_here; (with_reducible show wpAny _ _ (PySem.call (Value.ref 318) [Value.int _ _, Value.int 1948440 _, Value.int 1 _, Value.ref 280, Value.int 0 _]) _ _ _); k_dflt (refine' use (c_date_isl _ _ _ _ _ ?hd) ?k1 ?k2 ?k3 ?k4 ?k5 ?kK ?kd ?ku ?_; (case k1 => k_asm); (case k2 => k_asm); (case k3 => k_asm); (case k4 => k_asm); (case k5 => k_asm); (case kK => first | exact rfl | assumption); (case kd => first | ((with_reducible refine' room_dp ?rdh ?rdk); (case rdh => with_reducible assumption); (case rdk => decide)) | ktr_room); (case ku => first | ((with_reducible refine' room_un ?ruh ?ruk); (case ruh => with_reducible assumption); (case ruk => decide)) | ktr_units); (case hd => (law_clear; first | omega | ((try simp only [decide_eq_true_eq, decide_eq_false_iff_not, gj, ij, cj, jj, aj, sj, leapS] at *); first | done | omega))); intro D9 T9 L9 t9 u9 v9 vs9 n9 h9 tk9 hi9 F9 N9; (try dsimp only); (try k_fold))))
local macro_rules | `(tactic| walk_at "call ref") => `(tactic| (k_here; (with_reducible show wpAny _ _ (PySem.call (Value.ref 318) [Value.int _ _, Value.int 1825030 _, Value.int 1 _, Value.ref 281, Value.int 1 _]) _ _ _); k_dflt (refine' use (c_date_cop _ _ _ _ _ ?hd) ?k1 ?k2 ?k3 ?k4 ?k5 ?kK ?kd ?ku ?_; (case k1 => k_asm); (case k2 => k_asm); (case k3 => k_asm); (case k4 => k_asm); (case k5 => k_asm); (case kK => first | exact rfl | assumption); (case kd => first | ((with_reducible refine' room_dp ?rdh ?rdk); (case rdh => with_reducible assumption); (case rdk => decide)) | ktr_room); (case ku => first | ((with_reducible refine' room_un ?ruh ?ruk); (case ruh => with_reducible assumption); (case ruk => decide)) | ktr_units); (case hd => (law_clear; first | omega | ((try simp only [decide_eq_true_eq, decide_eq_false_iff_not, gj, ij, cj, jj, aj, sj, leapS] at *); first | done | omega))); intro D9 T9 L9 t9 u9 v9 vs9 n9 h9 tk9 hi9 F9 N9; (try dsimp only); (try k_fold))))
local macro_rules | `(tactic| walk_at "call ref") => `(tactic| (k_here; (with_reducible show wpAny _ _ (PySem.call (Value.ref 318) [Value.int _ _, Value.int 1721424 _, Value.int 1 _, Value.ref 282, Value.int 2 _]) _ _ _); k_dflt (refine' use (c_date_lat _ _ _ _ _ ?hd) ?k1 ?k2 ?k3 ?k4 ?k5 ?kK ?kd ?ku ?_; (case k1 => k_asm); (case k2 => k_asm); (case k3 => k_asm); (case k4 => k_asm); (case k5 => k_asm); (case kK => first | exact rfl | assumption); (case kd => first | ((with_reducible refine' room_dp ?rdh ?rdk); (case rdh => with_reducible assumption); (case rdk => decide)) | ktr_room); (case ku => first | ((with_reducible refine' room_un ?ruh ?ruk); (case ruh => with_reducible assumption); (case ruk => decide)) | ktr_units); (case hd => (law_clear; first | omega | ((try simp only [decide_eq_true_eq, decide_eq_false_iff_not, gj, ij, cj, jj, aj, sj, leapS] at *); first | done | omega))); intro D9 T9 L9 t9 u9 v9 vs9 n9 h9 tk9 hi9 F9 N9; (try dsimp only); (try k_fold))))
local macro_rules | `(tactic| walk_at "call ref") => `(tactic| (k_here; (with_reducible show wpAny _ _ (PySem.call (Value.ref 318) [Value.int _ _, Value.int 1922868 _, Value.int 1 _, Value.ref 283, Value.int 1 _]) _ _ _); k_dflt (refine' use (c_date_arm _ _ _ _ _ ?hd) ?k1 ?k2 ?k3 ?k4 ?k5 ?kK ?kd ?ku ?_; (case k1 => k_asm); (case k2 => k_asm); (case k3 => k_asm); (case k4 => k_asm); (case k5 => k_asm); (case kK => first | exact rfl | assumption); (case kd => first | ((with_reducible refine' room_dp ?rdh ?rdk); (case rdh => with_reducible assumption); (case rdk => decide)) | ktr_room); (case ku => first | ((with_reducible refine' room_un ?ruh ?ruk); (case ruh => with_reducible assumption); (case ruk => decide)) | ktr_units); (case hd => (law_clear; first | omega | ((try simp only [decide_eq_true_eq, decide_eq_false_iff_not, gj, ij, cj, jj, aj, sj, leapS] at *); first | done | omega))); intro D9 T9 L9 t9 u9 v9 vs9 n9 h9 tk9 hi9 F9 N9; (try dsimp only); (try k_fold))))
local macro_rules | `(tactic| walk_at "call ref") => `(tactic| (k_here; (with_reducible show wpAny _ _ (PySem.call (Value.ref 318) [Value.int _ _, Value.int 2117212 _, Value.int 533 _, Value.ref 282, Value.int 1 _]) _ _ _); k_dflt (refine' use (c_date_sar _ _ _ _ _ ?hd) ?k1 ?k2 ?k3 ?k4 ?k5 ?kK ?kd ?ku ?_; (case k1 => k_asm); (case k2 => k_asm); (case k3 => k_asm); (case k4 => k_asm); (case k5 => k_asm); (case kK => first | exact rfl | assumption); (case kd => first | ((with_reducible refine' room_dp ?rdh ?rdk); (case rdh => with_reducible assumption); (case rdk => decide)) | ktr_room); (case ku => first | ((with_reducible refine' room_un ?ruh ?ruk); (case ruh => with_reducible assumption); (case ruk => decide)) | ktr_units); (case hd => (law_clear; first | omega | ((try simp only [decide_eq_true_eq, decide_eq_false_iff_not, gj, ij, cj, jj, aj, sj, leapS] at *); first | done | omega))); intro D9 T9 L9 t9 u9 v9 vs9 n9 h9 tk9 hi9 F9 N9; (try dsimp only); (try k_fold))))
local macro_rules | `(tactic| walk_at "call ref") => `(tactic| (k_here; (with_reducible show wpAny _ _ (PySem.call (Value.ref 344) [Value.ref _, Value.ref _]) _ _ _); k_dflt (refine' use (c_next _ _ _ _ _ _ _ _ _ _ _ _ _ _ ?hi ?hl ?hm ?hx) ?k1 ?k2 ?k3 ?k4 ?k5 ?kK ?kd ?ku ?_; (case k1 => k_asm); (case k2 => k_asm); (case k3 => k_asm); (case k4 => k_asm); (case k5 => k_asm); (case kK => first | exact rfl | assumption); (case kd => first | ((with_reducible refine' room_dp ?rdh ?rdk); (case rdh => with_reducible assumption); (case rdk => decide)) | ktr_room); (case ku => first | ((with_reducible refine' room_un ?ruh ?ruk); (case ruh => with_reducible assumption); (case ruk => decide)) | ktr_units); (case hi => assumption); (case hx => assumption); (case hl => first | exact szs_len _ _ | omega); (case hm => (law_clear; first | omega | ((try simp only [decide_eq_true_eq, decide_eq_false_iff_not, gj, ij, cj, jj, aj, sj, leapS] at *); first | done | omega))); rotate_right; refine' ⟨?mT, ?_⟩; (case mT => first | k_mem | ((repeat (refine' List.Mem.tail _ ?_)); assumption)); refine' ⟨?mL, ?_⟩; (case mL => k_mem); intro D9 t9 u9 v9 h9 tk9 F9 N9; (try dsimp only); (try k_fold))))
local macro_rules | `(tactic| walk_at "eval Name") => `(tactic| (k_here; k_dflt (first | (name_kind "local"; refine' nameX_L ?F ?v ?_ ?a ?b ?c; (case F => k_asm); (case a => kernel_rfl); (case b => kernel_rfl); (case c => kernel_rfl); (case v => first | (refine' look_of ?gg ?ge; (case gg => (repeat (first | (with_reducible exact guess_hit_l) | (with_reducible apply guess_miss_l) | (with_reducible exact guess_hit_if) | ((with_reducible show Guess (@ite _ _ _ _ _) _); (with_reducible apply guess_miss_if))))); (case ge => kernel_rfl)) | exact rfl)) | (name_kind "globalImplicit"; refine' nameX_K ?F ?X ?T ?e ?_ ?a ?b ?c; (case F => k_asm); (case X => k_asm); (case T => k_asm); (case e => with_reducible (first | exact gn_law_date _ | exact gn_law_third _ | exact gn_law_next _ | exact gn_from_jd_coptic _ | exact gn_to_jd_coptic _ | exact gn_law_jd _ | exact gn_is_leap _ | exact gn_month_length_coptic _ | exact gn_to_gregorian_coptic _ | exact gn_from_gregorian_coptic _)); (case a => kernel_rfl); (case b => kernel_rfl); (case c => kernel_rfl)))))
set_option maxRecDepth 100000 in
set_option maxHeartbeats 8000000 in
theorem c_law_cop (day : Int) (R : Addr) (t u v z : Tok) (hd : -9000000000 < day ∧ day < 9000000000) :
    Claim 358 [.int day t, .ref R] 9 (WithT R (tup3 (romY day) u (romM day) v (romD day) z) (RetV fun _ => .bool true)) := by
  refine gate_out ?_
  simp (disch := (k_dflt (
  intro prog w p loose mean mg mb dp un gd cn cs a ccd cl outer A₀ base h₀ L mm news s Q E B F X N T hk hdp hun hret
  obtain ⟨hR, hret⟩ := hret
  have hlen : ((szs 1 (copS day)).length : Int) = 13 := rfl
  have hnx := cop_next day
  have h1 : Hint ((szs 1 (copS day)).getD (copM day - 1).toNat 0) (mlc (copY day) (copM day)) := ⟨cop_ml day⟩
  have h2 : Hint ((szs 1 (copS day)).getD (Int.toNat 12) 0) (copS day - 360) := ⟨rfl⟩
  have hY : (copS day = 366 ∧ copY day % 4 = 3) ∨ (copS day = 365 ∧ copY day % 4 ≠ 3) := (cop_year day).2.2.2
  have hM : 1 ≤ copM day ∧ copM day ≤ 13 := by
    obtain ⟨f1, f2, f3, f4⟩ := cop_year day
    obtain ⟨g1, g2⟩ := cop_month day
    omega
  (refine wpAny_call ?_; (k_dflt cell_enter); (try ((rename Fr _ _ _ _ => F8); (first | (have F9 := Fr_as F8 (m' := fun y9 => List.lookup y9 [(Str.ofString "roman", (.ref R : Value)), (Str.ofString "day", (.int day t : Value))]) rfl) | (have F9 := Fr_as F8 (m' := fun y9 => List.lookup y9 [(Str.ofString "day", (.int day t : Value)), (Str.ofString "roman", (.ref R : Value))]) rfl)); clear F8));  k_steps; all_goals (first | (((first | (with_reducible refine' hret 0 ?_ ?_ ?cbF ?cbN) | (with_reducible refine' hret _ ?_ ?_ ?cbF ?cbN))); (case cbF => k_asm); (case cbN => first | (with_reducible assumption) | (refine' cb_drop ?cbM ?cbS; (case cbM => assumption); (case cbS => (first | (intro p9 hp9; (repeat (with_reducible refine List.mem_cons_of_mem _ ?_)); exact hp9) | kcj_all))))) | cb_end hret))))) only [↓gate_true]
end
section
local macro_rules | `(tactic| walk_at "call ref") => `(tactic| (k_here; (with_reducible show wpAny _ _ (PySem.call (Value.ref 311) [Value.int 0 _, Value.int _ _]) _ _ _); k_dflt (refine' use (c_sizes0 _ _ _ _ ?hk) ?k1 ?k2 ?k3 ?k4 ?k5 ?kK ?kd ?ku ?_; (case k1 => k_asm); (case k2 => k_asm); (case k3 => k_asm); (case k4 => k_asm); (case k5 => k_asm); (case kK => first | exact rfl | assumption); (case kd => first | ((with_reducible refine' room_dp ?rdh ?rdk); (case rdh => with_reducible assumption); (case rdk => decide)) | ktr_room); (case ku => first | ((with_reducible refine' room_un ?ruh ?ruk); (case ruh => with_reducible assumption); (case ruk => decide)) | ktr_units); (case hk => (law_clear; first | omega | ((try simp only [decide_eq_true_eq, decide_eq_false_iff_not, gj, ij, cj, jj, aj, sj, leapS] at *); first | done | omega))); intro D9 vs9 n9 h9 tk9 hi9 F9 N9; (try dsimp only); (try k_fold))))
local macro_rules | `(tactic| walk_at "call ref") => `(tactic| (k_here; (with_reducible show wpAny _ _ (PySem.call (Value.ref 311) [Value.int 1 _, Value.int _ _]) _ _ _); k_dflt (refine' use (c_sizes1 _ _ _ _ ?hk) ?k1 ?k2 ?k3 ?k4 ?k5 ?kK ?kd ?ku ?_; (case k1 => k_asm); (case k2 => k_asm); (case k3 => k_asm); (case k4 => k_asm); (case k5 => k_asm); (case kK => first | exact rfl | assumption); (case kd => first | ((with_reducible refine' room_dp ?rdh ?rdk); (case rdh => with_reducible assumption); (case rdk => decide)) | ktr_room); (case ku => first | ((with_reducible refine' room_un ?ruh ?ruk); (case ruh => with_reducible assumption); (case ruk => decide)) | ktr_units); (case hk => (law_clear; first | omega | ((try simp only [decide_eq_true_eq, decide_eq_false_iff_not, gj, ij, cj, jj, aj, sj, leapS] at *); first | done | omega))); intro D9 vs9 n9 h9 tk9 hi9 F9 N9; (try dsimp only); (try k_fold))))
local macro_rules | `(tactic| walk_at "call ref") => `(tactic| (k_here; (with_reducible show wpAny _ _ (PySem.call (Value.ref 311) [Value.int 2 _, Value.int _ _]) _ _ _); k_dflt (refine' use (c_sizes2 _ _ _ _ ?hk) ?k1 ?k2 ?k3 ?k4 ?k5 ?kK ?kd ?ku ?_; (case k1 => k_asm); (case k2 => k_asm); (case k3 => k_asm); (case k4 => k_asm); (case k5 => k_asm); (case kK => first | exact rfl | assumption); (case kd => first | ((with_reducible refine' room_dp ?rdh ?rdk); (case rdh => with_reducible assumption); (case rdk => decide)) | ktr_room); (case ku => first | ((with_reducible refine' room_un ?ruh ?ruk); (case ruh => with_reducible assumption); (case ruk => decide)) | ktr_units); (case hk => (law_clear; first | omega | ((try simp only [decide_eq_true_eq, decide_eq_false_iff_not, gj, ij, cj, jj, aj, sj, leapS] at *); first | done | omega))); intro D9 vs9 n9 h9 tk9 hi9 F9 N9; (try dsimp only); (try k_fold))))
local macro_rules | `(tactic| walk_at "eval Name") => `(tactic| (k_here; k_dflt (first | (name_kind "local"; refine' nameX_L ?F ?v ?_ ?a ?b ?c; (case F => k_asm); (case a => kernel_rfl); (case b => kernel_rfl); (case c => kernel_rfl); (case v => first | (refine' look_of ?gg ?ge; (case gg => (repeat (first | (with_reducible exact guess_hit_l) | (with_reducible apply guess_miss_l) | (with_reducible exact guess_hit_if) | ((with_reducible show Guess (@ite _ _ _ _ _) _); (with_reducible apply guess_miss_if))))); (case ge => kernel_rfl)) | exact rfl)) | (name_kind "globalImplicit"; refine' nameX_K ?F ?X ?T ?e ?_ ?a ?b ?c; (case F => k_asm); (case X => k_asm); (case T => k_asm); (case e => with_reducible (first | exact gn_law_sizes _)); (case a => kernel_rfl); (case b => kernel_rfl); (case c => kernel_rfl)) | (name_kind "globalImplicit"; refine' nameX_B ?F ?X ?T ?e ?v ?n ?_ ?a ?b ?c; (case F => k_asm); (case X => k_asm); (case T => k_asm); (case e => with_reducible (first | exact gb_divmod _ | exact gb_len _ | exact gb_sum _)); (case v => with_reducible (first | exact bb_divmod | exact bb_len | exact bb_sum)); (case a => kernel_rfl); (case b => kernel_rfl); (case n => decide); (case c => kernel_rfl)))))
set_option maxRecDepth 100000 in
set_option maxHeartbeats 8000000 in
theorem c_count_arm (T : Addr) (y m d : Int) (t u v z w2 : Tok) (hy : 1 ≤ y ∧ y < 30000000) (hm : 1 ≤ m ∧ m ≤ 13) (hd : 1 ≤ d ∧ d ≤ mla m) :
    Claim 325 [.ref T, .int 1922868 z, .int 1 w2, .ref 283] 3 (WithT T (tup3 y t m u d v) (RetV fun t => .int (aj y m d) t)) := by
  refine gate_out ?_
  simp (disch := (k_dflt (
  intro prog w p loose mean mg mb dp un gd cn cs a ccd cl outer A₀ base h₀ L mm news s Q E B F X N T hk hdp hun hret
  obtain ⟨hT, hret⟩ := hret
  obtain ⟨q1, p1, S1, ml, cs1, ms, x1, x2, x3, x4, x5, x6, b1, b2, b3, b4, b5, b6⟩ := cnt_arm y m
  have e1 : Hint ((y - 1) / 1) q1 := ⟨x1⟩
  have e2 : Hint ((y - 1) % 1) p1 := ⟨x2⟩
  have e3 : Hint (plain1.getD p1.toNat 0) S1 := ⟨x3⟩
  have e4 : Hint ((szs 1 S1).getD (m - 1).toNat 0) ml := ⟨x4⟩
  have e5 : Hint ((plain1.take p1.toNat).sum) cs1 := ⟨x5⟩
  have e6 : Hint (((szs 1 S1).take (m - 1).toNat).sum) ms := ⟨x6⟩
  have hlen : ((szs 1 S1).length : Int) = 13 := rfl
  generalize hml : mla m = ml9 at *
  clear x1 x2 x3 x4 x5 x6 hml
  (refine wpAny_call ?_; (k_dflt cell_enter); (try ((rename Fr _ _ _ _ => F8); (first | (have F9 := Fr_as F8 (m' := fun y9 => List.lookup y9 [(Str.ofString "cycle", (.ref 283 : Value)), (Str.ofString "year", (.int 1 w2 : Value)), (Str.ofString "first", (.int 1922868 z : Value)), (Str.ofString "dated", (.ref T : Value))]) rfl) | (have F9 := Fr_as F8 (m' := fun y9 => List.lookup y9 [(Str.ofString "dated", (.ref T : Value)), (Str.ofString "first", (.int 1922868 z : Value)), (Str.ofString "year", (.int 1 w2 : Value)), (Str.ofString "cycle", (.ref 283 : Value))]) rfl)); clear F8));  k_steps; all_goals (refine' cb_retI hret ?e1 ?e2 ?e3; (case e2 => k_asm); (case e3 => first | k_asm | (refine' cb_drop ?cbN ?cbS; (case cbN => assumption); (case cbS => (first | (intro p9 hp9; (repeat (with_reducible refine List.mem_cons_of_mem _ ?_)); exact hp9) | kcj_all)))); (case e1 => (law_clear; unfold aj; omega))))))) only [↓gate_true]
end
section
local macro_rules | `(tactic| walk_at "pad") => `(tactic| fail)
local macro_rules | `(tactic| walk_at "call ref") => `(tactic| (k_here; (with_reducible show wpAny _ _ (PySem.call (Value.ref 311) [Value.int 0 _, Value.int _ _]) _ _ _); k_dflt (refine' use (c_sizes0 _ _ _ _ ?hk) ?k1 ?k2 ?k3 ?k4 ?k5 ?kK ?kd ?ku ?_; (case k1 => k_asm); (case k2 => k_asm); (case k3 => k_asm); (case k4 => k_asm); (case k5 => k_asm); (case kK => first | exact rfl | assumption); (case kd => first | ((with_reducible refine' room_dp ?rdh ?rdk); (case rdh => with_reducible assumption); (case rdk => decide)) | ktr_room); (case ku => first | ((with_reducible refine' room_un ?ruh ?ruk); (case ruh => with_reducible assumption); (case ruk => decide)) | ktr_units); (case hk => (law_clear; first | omega | ((try simp only [decide_eq_true_eq, decide_eq_false_iff_not, gj, ij, cj, jj, aj, sj, leapS] at *); first | done | omega))); intro D9 vs9 n9 h9 tk9 hi9 F9 N9; (try dsimp only); (try k_fold))))
local macro_rules | `(tactic| walk_at "call ref") => `(tactic| (k_here; (with_reducible show wpAny _ _ (PySem.call (Value.ref 311) [Value.int 1 _, Value.int _ _]) _ _ _); k_dflt (refine' use (c_sizes1 _ _ _ _ ?hk) ?k1 ?k2 ?k3 ?k4 ?k5 ?kK ?kd ?ku ?_; (case k1 => k_asm); (case k2 => k_asm); (case k3 => k_asm); (case k4 => k_asm); (case k5 => k_asm); (case kK => first | exact rfl | assumption); (case kd => first | ((with_reducible refine' room_dp ?rdh ?rdk); (case rdh => with_reducible assumption); (case rdk => decide)) | ktr_room); (case ku => first | ((with_reducible refine' room_un ?ruh ?ruk); (case ruh => with_reducible assumption); (case ruk => decide)) | ktr_units); (case hk => (law_clear; first | omega | ((try simp only [decide_eq_true_eq, decide_eq_false_iff_not, gj, ij, cj, jj, aj, sj, leapS] at *); first | done | omega))); intro D9 vs9 n9 h9 tk9 hi9 F9 N9; (try dsimp only); (try k_fold))))
local macro_rules | `(tactic| walk_at "call ref") => `(tactic| (k_here; (with_reducible show wpAny _ _ (PySem.call (Value.ref 311) [Value.int 2 _, Value.int _ _]) _ _ _); k_dflt (refine' use (c_sizes2 _ _ _ _ ?hk) ?k1 ?k2 ?k3 ?k4 ?k5 ?kK ?kd ?ku ?_; (case k1 => k_asm); (case k2 => k_asm); (case k3 => k_asm); (case k4 => k_asm); (case k5 => k_asm); (case kK => first | exact rfl | assumption); (case kd => first | ((with_reducible refine' room_dp ?rdh ?rdk); (case rdh => with_reducible assumption); (case rdk => decide)) | ktr_room); (case ku => first | ((with_reducible refine' room_un ?ruh ?ruk); (case ruh => with_reducible assumption); (case ruk => decide)) | ktr_units); (case hk => (law_clear; first | omega | ((try simp only [decide_eq_true_eq, decide_eq_false_iff_not, gj, ij, cj, jj, aj, sj, leapS] at *); first | done | omega))); intro D9 vs9 n9 h9 tk9 hi9 F9 N9; (try dsimp only); (try k_fold))))
local macro_rules | `(tactic| walk_at "eval Name") => `(tactic| (k_here; k_dflt (first | (name_kind "local"; refine' nameX_L ?F ?v ?_ ?a ?b ?c; (case F => k_asm); (case a => kernel_rfl); (case b => kernel_rfl); (case c => kernel_rfl); (case v => first | (refine' look_of ?gg ?ge; (case gg => (repeat (first | (with_reducible exact guess_hit_l) | (with_reducible apply guess_miss_l) | (with_reducible exact guess_hit_if) | ((with_reducible show Guess (@ite _ _ _ _ _) _); (with_reducible apply guess_miss_if))))); (case ge => kernel_rfl)) | exact rfl)) | (name_kind "globalImplicit"; refine' nameX_K ?F ?X ?T ?e ?_ ?a ?b ?c; (case F => k_asm); (case X => k_asm); (case T => k_asm); (case e => with_reducible (first | exact gn_law_sizes _)); (case a => kernel_rfl); (case b => kernel_rfl); (case c => kernel_rfl)) | (name_kind "globalImplicit"; refine' nameX_B ?F ?X ?T ?e ?v ?n ?_ ?a ?b ?c; (case F => k_asm); (case X => k_asm); (case T => k_asm); (case e => with_reducible (first | exact gb_divmod _ | exact gb_len _ | exact gb_sum _)); (case v => with_reducible (first | exact bb_divmod | exact bb_len | exact bb_sum)); (case a => kernel_rfl); (case b => kernel_rfl); (case n => decide); (case c => kernel_rfl)))))
set_option maxRecDepth 100000 in
set_option maxHeartbeats 8000000 in
theorem c_countN_arm (T : Addr) (y m d : Int) (t u v z w2 : Tok) (hy : -30000000 < y ∧ y < 30000000) (hn : y < 1 ∨ m < 1 ∨ 13 < m ∨ d < 1 ∨ mla m < d) :
    Claim 325 [.ref T, .int 1922868 z, .int 1 w2, .ref 283] 3 (WithT T (tup3 y t m u d v) (RetV fun _ => .none)) := by
  refine gate_out ?_
  simp (disch := (k_dflt (
  intro prog w p loose mean mg mb dp un gd cn cs a ccd cl outer A₀ base h₀ L mm news s Q E B F X N T hk hdp hun hret
  obtain ⟨hT, hret⟩ := hret
  obtain ⟨q1, p1, S1, ml, cs1, ms, x1, x2, x3, x4, x5, x6, b1, b2, b3, b4, b5, b6⟩ := cnt_arm y m
  have e1 : Hint ((y - 1) / 1) q1 := ⟨x1⟩
  have e2 : Hint ((y - 1) % 1) p1 := ⟨x2⟩
  have e3 : Hint (plain1.getD p1.toNat 0) S1 := ⟨x3⟩
  have e4 : Hint ((szs 1 S1).getD (m - 1).toNat 0) ml := ⟨x4⟩
  have e5 : Hint ((plain1.take p1.toNat).sum) cs1 := ⟨x5⟩
  have e6 : Hint (((szs 1 S1).take (m - 1).toNat).sum) ms := ⟨x6⟩
  have hlen : ((szs 1 S1).length : Int) = 13 := rfl
  generalize hml : mla m = ml9 at *
  clear x1 x2 x3 x4 x5 x6 hml
  (refine wpAny_call ?_; (k_dflt cell_enter); (try ((rename Fr _ _ _ _ => F8); (first | (have F9 := Fr_as F8 (m' := fun y9 => List.lookup y9 [(Str.ofString "cycle", (.ref 283 : Value)), (Str.ofString "year", (.int 1 w2 : Value)), (Str.ofString "first", (.int 1922868 z : Value)), (Str.ofString "dated", (.ref T : Value))]) rfl) | (have F9 := Fr_as F8 (m' := fun y9 => List.lookup y9 [(Str.ofString "dated", (.ref T : Value)), (Str.ofString "first", (.int 1922868 z : Value)), (Str.ofString "year", (.int 1 w2 : Value)), (Str.ofString "cycle", (.ref 283 : Value))]) rfl)); clear F8));  k_steps; all_goals (refine' ret_N hret ?e2 ?e3; (case e2 => k_asm); (case e3 => first | k_asm | (refine' cb_drop ?cbN ?cbS; (case cbN => assumption); (case cbS => (first | (intro p9 hp9; (repeat (with_reducible refine List.mem_cons_of_mem _ ?_)); exact hp9) | kcj_all))))))))) only [↓gate_true]
end
section
local macro_rules | `(tactic| walk_at "call ref") => `(tactic| (k_here; (with_reducible show wpAny _ _ (PySem.call (Value.ref 311) [Value.int 0 _, Value.int _ _]) _ _ _); k_dflt (refine' use (c_sizes0 _ _ _ _ ?hk) ?k1 ?k2 ?k3 ?k4 ?k5 ?kK ?kd ?ku ?_; (case k1 => k_asm); (case k2 => k_asm); (case k3 => k_asm); (case k4 => k_asm); (case k5 => k_asm); (case kK => first | exact rfl | assumption); (case kd => first | ((with_reducible refine' room_dp ?rdh ?rdk); (case rdh => with_reducible assumption); (case rdk => decide)) | ktr_room); (case ku => first | ((with_reducible refine' room_un ?ruh ?ruk); (case ruh => with_reducible assumption); (case ruk => decide)) | ktr_units); (case hk => (law_clear; first | omega | ((try simp only [decide_eq_true_eq, decide_eq_false_iff_not, gj, ij, cj, jj, aj, sj, leapS] at *); first | done | omega))); intro D9 vs9 n9 h9 tk9 hi9 F9 N9; (try dsimp only); (try k_fold))))
local macro_rules | `(tactic| walk_at "call ref") => `(tactic| (k_here; (with_reducible show wpAny _ _ (PySem.call (Value.ref 311) [Value.int 1 _, Value.int _ _]) _ _ _); k_dflt (refine' use (c_sizes1 _ _ _ _ ?hk) ?k1 ?k2 ?k3 ?k4 ?k5 ?kK ?kd ?ku ?_; (case k1 => k_asm); (case k2 => k_asm); (case k3 => k_asm); (case k4 => k_asm); (case k5 => k_asm); (case kK => first | exact rfl | assumption); (case kd => first | ((with_reducible refine' room_dp ?rdh ?rdk); (case rdh => with_reducible assumption); (case rdk => decide)) | ktr_room); (case ku => first | ((with_reducible refine' room_un ?ruh ?ruk); (case ruh => with_reducible assumption); (case ruk => decide)) | ktr_units); (case hk => (law_clear; first | omega | ((try simp only [decide_eq_true_eq, decide_eq_false_iff_not, gj, ij, cj, jj, aj, sj, leapS] at *); first | done | omega))); intro D9 vs9 n9 h9 tk9 hi9 F9 N9; (try dsimp only); (try k_fold))))
local macro_rules | `(tactic| walk_at "call ref") => `(tactic| (k_here; (with_reducible show wpAny _ _ (PySem.call (Value.ref 311) [Value.int 2 _, Value.int _ _]) _ _ _); k_dflt (refine' use (c_sizes2 _ _ _ _ ?hk) ?k1 ?k2 ?k3 ?k4 ?k5 ?kK ?kd ?ku ?_; (case k1 => k_asm); (case k2 => k_asm); (case k3 => k_asm); (case k4 => k_asm); (case k5 => k_asm); (case kK => first | exact rfl | assumption); (case kd => first | ((with_reducible refine' room_dp ?rdh ?rdk); (case rdh => with_reducible assumption); (case rdk => decide)) | ktr_room); (case ku => first | ((with_reducible refine' room_un ?ruh ?ruk); (case ruh => with_reducible assumption); (case ruk => decide)) | ktr_units); (case hk => (law_clear; first | omega | ((try simp only [decide_eq_true_eq, decide_eq_false_iff_not, gj, ij, cj, jj, aj, sj, leapS] at *); first | done | omega))); intro D9 vs9 n9 h9 tk9 hi9 F9 N9; (try dsimp only); (try k_fold))))
local macro_rules | `(tactic| walk_at "eval Name") => `(tactic| (k_here; k_dflt (first | (name_kind "local"; refine' nameX_L ?F ?v ?_ ?a ?b ?c; (case F => k_asm); (case a => kernel_rfl); (case b => kernel_rfl); (case c => kernel_rfl); (case v => first | (refine' look_of ?gg ?ge; (case gg => (repeat (first | (with_reducible exact guess_hit_l) | (with_reducible apply guess_miss_l) | (with_reducible exact guess_hit_if) | ((with_reducible show Guess (@ite _ _ _ _ _) _); (with_reducible apply guess_miss_if))))); (case ge => kernel_rfl)) | exact rfl)) | (name_kind "globalImplicit"; refine' nameX_K ?F ?X ?T ?e ?_ ?a ?b ?c; (case F => k_asm); (case X => k_asm); (case T => k_asm); (case e => with_reducible (first | exact gn_law_sizes _)); (case a => kernel_rfl); (case b => kernel_rfl); (case c => kernel_rfl)) | (name_kind "globalImplicit"; refine' nameX_B ?F ?X ?T ?e ?v ?n ?_ ?a ?b ?c; (case F => k_asm); (case X => k_asm); (case T => k_asm); (case e => with_reducible (first | exact gb_divmod _ | exact gb_len _ | exact gb_sum _)); (case v => with_reducible (first | exact bb_divmod | exact bb_len | exact bb_sum)); (case a => kernel_rfl); (case b => kernel_rfl); (case n => decide); (case c => kernel_rfl)))))
set_option maxRecDepth 100000 in
set_option maxHeartbeats 8000000 in
theorem c_count_sar (T : Addr) (y m d : Int) (t u v z w2 : Tok) (hy : 533 ≤ y ∧ y < 30000000) (hm : 1 ≤ m ∧ m ≤ 13) (hd : 1 ≤ d ∧ d ≤ mls y m) :
    Claim 325 [.ref T, .int 2117212 z, .int 533 w2, .ref 282] 3 (WithT T (tup3 y t m u d v) (RetV fun t => .int (sj y m d) t)) := by
  refine gate_out ?_
  simp (disch := (k_dflt (
  intro prog w p loose mean mg mb dp un gd cn cs a ccd cl outer A₀ base h₀ L mm news s Q E B F X N T hk hdp hun hret
  obtain ⟨hT, hret⟩ := hret
  obtain ⟨q1, p1, S1, ml, cs1, ms, x1, x2, x3, x4, x5, x6, b1, b2, b3, b4, b5, b6, b7⟩ := cnt_sar y m
  have e1 : Hint ((y - 533) / 4) q1 := ⟨x1⟩
  have e2 : Hint ((y - 533) % 4) p1 := ⟨x2⟩
  have e3 : Hint (fourth.getD p1.toNat 0) S1 := ⟨x3⟩
  have e4 : Hint ((szs 1 S1).getD (m - 1).toNat 0) ml := ⟨x4⟩
  have e5 : Hint ((fourth.take p1.toNat).sum) cs1 := ⟨x5⟩
  have e6 : Hint (((szs 1 S1).take (m - 1).toNat).sum) ms := ⟨x6⟩
  have hlen : ((szs 1 S1).length : Int) = 13 := rfl
  generalize hml : mls y m = ml9 at *
  clear x1 x2 x3 x4 x5 x6 hml
  (refine wpAny_call ?_; (k_dflt cell_enter); (try ((rename Fr _ _ _ _ => F8); (first | (have F9 := Fr_as F8 (m' := fun y9 => List.lookup y9 [(Str.ofString "cycle", (.ref 282 : Value)), (Str.ofString "year", (.int 533 w2 : Value)), (Str.ofString "first", (.int 2117212 z : Value)), (Str.ofString "dated", (.ref T : Value))]) rfl) | (have F9 := Fr_as F8 (m' := fun y9 => List.lookup y9 [(Str.ofString "dated", (.ref T : Value)), (Str.ofString "first", (.int 2117212 z : Value)), (Str.ofString "year", (.int 533 w2 : Value)), (Str.ofString "cycle", (.ref 282 : Value))]) rfl)); clear F8));  k_steps; all_goals (refine' cb_retI hret ?e1 ?e2 ?e3; (case e2 => k_asm); (case e3 => first | k_asm | (refine' cb_drop ?cbN ?cbS; (case cbN => assumption); (case cbS => (first | (intro p9 hp9; (repeat (with_reducible refine List.mem_cons_of_mem _ ?_)); exact hp9) | kcj_all)))); (case e1 => (law_clear; unfold sj; omega))))))) only [↓gate_true]
end
section
local macro_rules | `(tactic| walk_at "pad") => `(tactic| fail)
local macro_rules | `(tactic| walk_at "call ref") => `(tactic| (k_here; (with_reducible show wpAny _ _ (PySem.call (Value.ref 311) [Value.int 0 _, Value.int _ _]) _ _ _); k_dflt (refine' use (c_sizes0 _ _ _ _ ?hk) ?k1 ?k2 ?k3 ?k4 ?k5 ?kK ?kd ?ku ?_; (case k1 => k_asm); (case k2 => k_asm); (case k3 => k_asm); (case k4 => k_asm); (case k5 => k_asm); (case kK => first | exact rfl | assumption); (case kd => first | ((with_reducible refine' room_dp ?rdh ?rdk); (case rdh => with_reducible assumption); (case rdk => decide)) | ktr_room); (case ku => first | ((with_reducible refine' room_un ?ruh ?ruk); (case ruh => with_reducible assumption); (case ruk => decide)) | ktr_units); (case hk => (law_clear; first | omega | ((try simp only [decide_eq_true_eq, decide_eq_false_iff_not, gj, ij, cj, jj, aj, sj, leapS] at *); first | done | omega))); intro D9 vs9 n9 h9 tk9 hi9 F9 N9; (try dsimp only); (try k_fold))))
local macro_rules | `(tactic| walk_at "call ref") => `(tactic| (k_here; (with_reducible show wpAny _ _ (PySem.call (Value.ref 311) [Value.int 1 _, Value.int _ _]) _ _ _); k_dflt (refine' use (c_sizes1 _ _ _ _ ?hk) ?k1 ?k2 ?k3 ?k4 ?k5 ?kK ?kd ?ku ?_; (case k1 => k_asm); (case k2 => k_asm); (case k3 => k_asm); (case k4 => k_asm); (case k5 => k_asm); (case kK => first | exact rfl | assumption); (case kd => first | ((with_reducible refine' room_dp ?rdh ?rdk); (case rdh => with_reducible assumption); (case rdk => decide)) | ktr_room); (case ku => first | ((with_reducible refine' room_un ?ruh ?ruk); (case ruh => with_reducible assumption); (case ruk => decide)) | ktr_units); (case hk => (law_clear; first | omega | ((try simp only [decide_eq_true_eq, decide_eq_false_iff_not, gj, ij, cj, jj, aj, sj, leapS] at *); first | done | omega))); intro D9 vs9 n9 h9 tk9 hi9 F9 N9; (try dsimp only); (try k_fold))))
local macro_rules | `(tactic| walk_at "call ref") => `(tactic| (k_here; (with_reducible show wpAny _ _ (PySem.call (Value.ref 311) [Value.int 2 _, Value.int _ _]) _ _ _); k_dflt (refine' use (c_sizes2 _ _ _ _ ?hk) ?k1 ?k2 ?k3 ?k4 ?k5 ?kK ?kd ?ku ?_; (case k1 => k_asm); (case k2 => k_asm); (case k3 => k_asm); (case k4 => k_asm); (case k5 => k_asm); (case kK => first | exact rfl | assumption); (case kd => first | ((with_reducible refine' room_dp ?rdh ?rdk); (case rdh => with_reducible assumption); (case rdk => decide)) | ktr_room); (case ku => first | ((with_reducible refine' room_un ?ruh ?ruk); (case ruh => with_reducible assumption); (case ruk => decide)) | ktr_units); (case hk => (law_clear; first | omega | ((try simp only [decide_eq_true_eq, decide_eq_false_iff_not, gj, ij, cj, jj, aj, sj, leapS] at *); first | done | omega))); intro D9 vs9 n9 h9 tk9 hi9 F9 N9; (try dsimp only); (try k_fold))))
local macro_rules | `(tactic| walk_at "eval Name") => `(tactic| (k_here; k_dflt (first | (name_kind "local"; refine' nameX_L ?F ?v ?_ ?a ?b ?c; (case F => k_asm); (case a => kernel_rfl); (case b => kernel_rfl); (case c => kernel_rfl); (case v => first | (refine' look_of ?gg ?ge; (case gg => (repeat (first | (with_reducible exact guess_hit_l) | (with_reducible apply guess_miss_l) | (with_reducible exact guess_hit_if) | ((with_reducible show Guess (@ite _ _ _ _ _) _); (with_reducible apply guess_miss_if))))); (case ge => kernel_rfl)) | exact rfl)) | (name_kind "globalImplicit"; refine' nameX_K ?F ?X ?T ?e ?_ ?a ?b ?c; (case F => k_asm); (case X => k_asm); (case T => k_asm); (case e => with_reducible (first | exact gn_law_sizes _)); (case a => kernel_rfl); (case b => kernel_rfl); (case c => kernel_rfl)) | (name_kind "globalImplicit"; refine' nameX_B ?F ?X ?T ?e ?v ?n ?_ ?a ?b ?c; (case F => k_asm); (case X => k_asm); (case T => k_asm); (case e => with_reducible (first | exact gb_divmod _ | exact gb_len _ | exact gb_sum _)); (case v => with_reducible (first | exact bb_divmod | exact bb_len | exact bb_sum)); (case a => kernel_rfl); (case b => kernel_rfl); (case n => decide); (case c => kernel_rfl)))))
set_option maxRecDepth 100000 in
set_option maxHeartbeats 8000000 in
theorem c_countN_sar (T : Addr) (y m d : Int) (t u v z w2 : Tok) (hy : -30000000 < y ∧ y < 30000000) (hn : y < 533 ∨ m < 1 ∨ 13 < m ∨ d < 1 ∨ mls y m < d) :
    Claim 325 [.ref T, .int 2117212 z, .int 533 w2, .ref 282] 3 (WithT T (tup3 y t m u d v) (RetV fun _ => .none)) := by
  refine gate_out ?_
  simp (disch := (k_dflt (
  intro prog w p loose mean mg mb dp un gd cn cs a ccd cl outer A₀ base h₀ L mm news s Q E B F X N T hk hdp hun hret
  obtain ⟨hT, hret⟩ := hret
  obtain ⟨q1, p1, S1, ml, cs1, ms, x1, x2, x3, x4, x5, x6, b1, b2, b3, b4, b5, b6, b7⟩ := cnt_sar y m
  have e1 : Hint ((y - 533) / 4) q1 := ⟨x1⟩
  have e2 : Hint ((y - 533) % 4) p1 := ⟨x2⟩
  have e3 : Hint (fourth.getD p1.toNat 0) S1 := ⟨x3⟩
  have e4 : Hint ((szs 1 S1).getD (m - 1).toNat 0) ml := ⟨x4⟩
  have e5 : Hint ((fourth.take p1.toNat).sum) cs1 := ⟨x5⟩
  have e6 : Hint (((szs 1 S1).take (m - 1).toNat).sum) ms := ⟨x6⟩
  have hlen : ((szs 1 S1).length : Int) = 13 := rfl
  generalize hml : mls y m = ml9 at *
  clear x1 x2 x3 x4 x5 x6 hml
  (refine wpAny_call ?_; (k_dflt cell_enter); (try ((rename Fr _ _ _ _ => F8); (first | (have F9 := Fr_as F8 (m' := fun y9 => List.lookup y9 [(Str.ofString "cycle", (.ref 282 : Value)), (Str.ofString "year", (.int 533 w2 : Value)), (Str.ofString "first", (.int 2117212 z : Value)), (Str.ofString "dated", (.ref T : Value))]) rfl) | (have F9 := Fr_as F8 (m' := fun y9 => List.lookup y9 [(Str.ofString "dated", (.ref T : Value)), (Str.ofString "first", (.int 2117212 z : Value)), (Str.ofString "year", (.int 533 w2 : Value)), (Str.ofString "cycle", (.ref 282 : Value))]) rfl)); clear F8));  k_steps; all_goals (refine' ret_N hret ?e2 ?e3; (case e2 => k_asm); (case e3 => first | k_asm | (refine' cb_drop ?cbN ?cbS; (case cbN => assumption); (case cbS => (first | (intro p9 hp9; (repeat (with_reducible refine List.mem_cons_of_mem _ ?_)); exact hp9) | kcj_all))))))))) only [↓gate_true]
end
section
local macro_rules | `(tactic| walk_at "call ref") => `(tactic| (k_here; (with_reducible show wpAny _ _ (PySem.call (Value.ref 221) [Value.int _ _]) _ _ _); k_dflt (refine' use (c_leap_arm _ _) ?k1 ?k2 ?k3 ?k4 ?k5 ?kK ?kd ?ku ?_; (case k1 => k_asm); (case k2 => k_asm); (case k3 => k_asm); (case k4 => k_asm); (case k5 => k_asm); (case kK => first | exact rfl | assumption); (case kd => first | ((with_reducible refine' room_dp ?rdh ?rdk); (case rdh => with_reducible assumption); (case rdk => decide)) | ktr_room); (case ku => first | ((with_reducible refine' room_un ?ruh ?ruk); (case ruh => with_reducible assumption); (case ruk => decide)) | ktr_units); intro t9 h9 tk9 F9 N9; (try dsimp only); (try k_fold))))
local macro_rules | `(tactic| walk_at "call ref") => `(tactic| (k_here; (with_reducible show wpAny _ _ (PySem.call (Value.ref 229) [Value.int _ _, Value.int _ _, Value.int _ _, Value.none]) _ _ _); k_dflt (refine' use (c_tojd_n _ _ _ _ _ _ ?hy ?hm ?hd ?hl) ?k1 ?k2 ?k3 ?k4 ?k5 ?kK ?kd ?ku ?_; (case k1 => k_asm); (case k2 => k_asm); (case k3 => k_asm); (case k4 => k_asm); (case k5 => k_asm); (case kK => first | exact rfl | assumption); (case kd => first | ((with_reducible refine' room_dp ?rdh ?rdk); (case rdh => with_reducible assumption); (case rdk => decide)) | ktr_room); (case ku => first | ((with_reducible refine' room_un ?ruh ?ruk); (case ruh => with_reducible assumption); (case ruk => decide)) | ktr_units); (case hy => (law_clear; first | omega | ((try simp only [decide_eq_true_eq, decide_eq_false_iff_not, gj, ij, cj, jj, aj, sj, leapS] at *); first | done | omega))); (case hm => (law_clear; first | omega | ((try simp only [decide_eq_true_eq, decide_eq_false_iff_not, gj, ij, cj, jj, aj, sj, leapS] at *); first | done | omega))); (case hd => (law_clear; first | omega | ((try simp only [decide_eq_true_eq, decide_eq_false_iff_not, gj, ij, cj, jj, aj, sj, leapS] at *); first | done | omega))); (case hl => (law_clear; first | omega | ((try simp only [decide_eq_true_eq, decide_eq_false_iff_not, gj, ij, cj, jj, aj, sj, leapS] at *); first | done | omega))); intro t9 h9 tk9 F9 N9; (try dsimp only); (try k_fold))))
local macro_rules | `(tactic| walk_at "call ref") => `(tactic| (k_here; (with_reducible show wpAny _ _ (PySem.call (Value.ref 229) [Value.int _ _, Value.int _ _, Value.int _ _, Value.str (Str.ofString "sarkawag") _]) _ _ _); k_dflt (refine' use (c_tojd_s _ _ _ _ _ _ _ ?hy ?hm ?hd ?hl) ?k1 ?k2 ?k3 ?k4 ?k5 ?kK ?kd ?ku ?_; (case k1 => k_asm); (case k2 => k_asm); (case k3 => k_asm); (case k4 => k_asm); (case k5 => k_asm); (case kK => first | exact rfl | assumption); (case kd => first | ((with_reducible refine' room_dp ?rdh ?rdk); (case rdh => with_reducible assumption); (case rdk => decide)) | ktr_room); (case ku => first | ((with_reducible refine' room_un ?ruh ?ruk); (case ruh => with_reducible assumption); (case ruk => decide)) | ktr_units); (case hy => (law_clear; first | omega | ((try simp only [decide_eq_true_eq, decide_eq_false_iff_not, gj, ij, cj, jj, aj, sj, leapS] at *); first | done | omega))); (case hm => (law_clear; first | omega | ((try simp only [decide_eq_true_eq, decide_eq_false_iff_not, gj, ij, cj, jj, aj, sj, leapS] at *); first | done | omega))); (case hd => (law_clear; first | omega | ((try simp only [decide_eq_true_eq, decide_eq_false_iff_not, gj, ij, cj, jj, aj, sj, leapS] at *); first | done | omega))); (case hl => (law_clear; first | omega | ((try simp only [decide_eq_true_eq, decide_eq_false_iff_not, gj, ij, cj, jj, aj, sj, leapS] at *); first | done | omega))); intro t9 h9 tk9 F9 N9; (try dsimp only); (try k_fold))))
local macro_rules | `(tactic| walk_at "call ref") => `(tactic| (k_here; (with_reducible show wpAny _ _ (PySem.call (Value.ref 229) [Value.int (armY _) _, Value.int (armM _) _, Value.int (armD _) _, Value.none]) _ _ _); k_dflt (refine' use (c_tojd_arm_at _ _ _ _ ?hd) ?k1 ?k2 ?k3 ?k4 ?k5 ?kK ?kd ?ku ?_; (case k1 => k_asm); (case k2 => k_asm); (case k3 => k_asm); (case k4 => k_asm); (case k5 => k_asm); (case kK => first | exact rfl | assumption); (case kd => first | ((with_reducible refine' room_dp ?rdh ?rdk); (case rdh => with_reducible assumption); (case rdk => decide)) | ktr_room); (case ku => first | ((with_reducible refine' room_un ?ruh ?ruk); (case ruh => with_reducible assumption); (case ruk => decide)) | ktr_units); (case hd => (law_clear; first | omega | ((try simp only [decide_eq_true_eq, decide_eq_false_iff_not, gj, ij, cj, jj, aj, sj, leapS] at *); first | done | omega))); intro t9 h9 tk9 F9 N9; (try dsimp only); (try k_fold))))
local macro_rules | `(tactic| walk_at "call ref") => `(tactic| (k_here; (with_reducible show wpAny _ _ (PySem.call (Value.ref 229) [Value.int (sarY _) _, Value.int (sarM _) _, Value.int (sarD _) _, Value.str (Str.ofString "sarkawag") _]) _ _ _); k_dflt (refine' use (c_tojd_sar_at _ _ _ _ _ ?hd) ?k1 ?k2 ?k3 ?k4 ?k5 ?kK ?kd ?ku ?_; (case k1 => k_asm); (case k2 => k_asm); (case k3 => k_asm); (case k4 => k_asm); (case k5 => k_asm); (case kK => first | exact rfl | assumption); (case kd => first | ((with_reducible refine' room_dp ?rdh ?rdk); (case rdh => with_reducible assumption); (case rdk => decide)) | ktr_room); (case ku => first | ((with_reducible refine' room_un ?ruh ?ruk); (case ruh => with_reducible assumption); (case ruk => decide)) | ktr_units); (case hd => (law_clear; first | omega | ((try simp only [decide_eq_true_eq, decide_eq_false_iff_not, gj, ij, cj, jj, aj, sj, leapS] at *); first | done | omega))); intro t9 h9 tk9 F9 N9; (try dsimp only); (try k_fold))))
local macro_rules | `(tactic| walk_at "call ref") => `(tactic| (k_here; (with_reducible show wpAny _ _ (PySem.call (Value.ref 237) [Value.float (H (2 * _ - 1)) _, Value.none]) _ _ _); k_dflt (refine' use (c_fromjd_arm _ _ ?hd) ?k1 ?k2 ?k3 ?k4 ?k5 ?kK ?kd ?ku ?_; (case k1 => k_asm); (case k2 => k_asm); (case k3 => k_asm); (case k4 => k_asm); (case k5 => k_asm); (case kK => first | exact rfl | assumption); (case kd => first | ((with_reducible refine' room_dp ?rdh ?rdk); (case rdh => with_reducible assumption); (case rdk => decide)) | ktr_room); (case ku => first | ((with_reducible refine' room_un ?ruh ?ruk); (case ruh => with_reducible assumption); (case ruk => decide)) | ktr_units); (case hd => (law_clear; first | omega | ((try simp only [decide_eq_true_eq, decide_eq_false_iff_not, gj, ij, cj, jj, aj, sj, leapS] at *); first | done | omega))); intro D9 t9 u9 v9 h9 tk9 F9 N9; (try dsimp only); (try k_fold))))
local macro_rules | `(tactic| walk_at "call ref") => `(tactic| (k_here; (with_reducible show wpAny _ _ (PySem.call (Value.ref 237) [Value.float (H (2 * _ - 1)) _, Value.str (Str.ofString "sarkawag") _]) _ _ _); k_dflt (refine' use (c_fromjd_sar _ _ _ ?hd) ?k1 ?k2 ?k3 ?k4 ?k5 ?kK ?kd ?ku ?_; (case k1 => k_asm); (case k2 => k_asm); (case k3 => k_asm); (case k4 => k_asm); (case k5 => k_asm); (case kK => first | exact rfl | assumption); (case kd => first | ((with_reducible refine' room_dp ?rdh ?rdk); (case rdh => with_reducible assumption); (case rdk => decide)) | ktr_room); (case ku => first | ((with_reducible refine' room_un ?ruh ?ruk); (case ruh => with_reducible assumption); (case ruk => decide)) | ktr_units); (case hd => (law_clear; first | omega | ((try simp only [decide_eq_true_eq, decide_eq_false_iff_not, gj, ij, cj, jj, aj, sj, leapS] at *); first | done | omega))); intro D9 t9 u9 v9 h9 tk9 F9 N9; (try dsimp only); (try k_fold))))
local macro_rules | `(tactic| walk_at "call ref") => `(tactic| (k_here; (with_reducible show wpAny _ _ (PySem.call (Value.ref 245) [Value.int (armY _) _, Value.int (armM _) _, Value.int (armD _) _, Value.none]) _ _ _); k_dflt (refine' use (c_tojul_arm _ _ _ _ ?hd) ?k1 ?k2 ?k3 ?k4 ?k5 ?kK ?kd ?ku ?_; (case k1 => k_asm); (case k2 => k_asm); (case k3 => k_asm); (case k4 => k_asm); (case k5 => k_asm); (case kK => first | exact rfl | assumption); (case kd => first | ((with_reducible refine' room_dp ?rdh ?rdk); (case rdh => with_reducible assumption); (case rdk => decide)) | ktr_room); (case ku => first | ((with_reducible refine' room_un ?ruh ?ruk); (case ruh => with_reducible assumption); (case ruk => decide)) | ktr_units); (case hd => (law_clear; first | omega | ((try simp only [decide_eq_true_eq, decide_eq_false_iff_not, gj, ij, cj, jj, aj, sj, leapS] at *); first | done | omega))); intro D9 t9 u9 v9 h9 tk9 F9 N9; (try dsimp only); (try k_fold))))
local macro_rules | `(tactic| walk_at "call ref") => `(tactic| (k_here; (with_reducible show wpAny _ _ (PySem.call (Value.ref 253) [Value.int (latY _) _, Value.int (latM _) _, Value.int (latD _) _, Value.none]) _ _ _); k_dflt (refine' use (c_fromjul_arm _ _ _ _ ?hd) ?k1 ?k2 ?k3 ?k4 ?k5 ?kK ?kd ?ku ?_; (case k1 => k_asm); (case k2 => k_asm); (case k3 => k_asm); (case k4 => k_asm); (case k5 => k_asm); (case kK => first | exact rfl | assumption); (case kd => first | ((with_reducible refine' room_dp ?rdh ?rdk); (case rdh => with_reducible assumption); (case rdk => decide)) | ktr_room); (case ku => first | ((with_reducible refine' room_un ?ruh ?ruk); (case ruh => with_reducible assumption); (case ruk => decide)) | ktr_units); (case hd => (law_clear; first | omega | ((try simp only [decide_eq_true_eq, decide_eq_false_iff_not, gj, ij, cj, jj, aj, sj, leapS] at *); first | done | omega))); intro D9 t9 u9 v9 h9 tk9 F9 N9; (try dsimp only); (try k_fold))))
local macro_rules | `(tactic| walk_at "call ref") => `(tactic| (k_here; (with_reducible show wpAny _ _ (PySem.call (Value.ref 261) [Value.int (armY _) _, Value.int (armM _) _, Value.int (armD _) _, Value.none]) _ _ _); k_dflt (refine' use (c_togreg_arm _ _ _ _ ?hd) ?k1 ?k2 ?k3 ?k4 ?k5 ?kK ?kd ?ku ?_; (case k1 => k_asm); (case k2 => k_asm); (case k3 => k_asm); (case k4 => k_asm); (case k5 => k_asm); (case kK => first | exact rfl | assumption); (case kd => first | ((with_reducible refine' room_dp ?rdh ?rdk); (case rdh => with_reducible assumption); (case rdk => decide)) | ktr_room); (case ku => first | ((with_reducible refine' room_un ?ruh ?ruk); (case ruh => with_reducible assumption); (case ruk => decide)) | ktr_units); (case hd => (law_clear; first | omega | ((try simp only [decide_eq_true_eq, decide_eq_false_iff_not, gj, ij, cj, jj, aj, sj, leapS] at *); first | done | omega))); intro D9 t9 u9 v9 h9 tk9 F9 N9; (try dsimp only); (try k_fold))))
local macro_rules | `(tactic| walk_at "call ref") => `(tactic| (k_here; (with_reducible show wpAny _ _ (PySem.call (Value.ref 269) [Value.int (romY _) _, Value.int (romM _) _, Value.int (romD _) _, Value.none]) _ _ _); k_dflt (refine' use (c_fromgreg_arm _ _ _ _ ?hd) ?k1 ?k2 ?k3 ?k4 ?k5 ?kK ?kd ?ku ?_; (case k1 => k_asm); (case k2 => k_asm); (case k3 => k_asm); (case k4 => k_asm); (case k5 => k_asm); (case kK => first | exact rfl | assumption); (case kd => first | ((with_reducible refine' room_dp ?rdh ?rdk); (case rdh => with_reducible assumption); (case rdk => decide)) | ktr_room); (case ku => first | ((with_reducible refine' room_un ?ruh ?ruk); (case ruh => with_reducible assumption); (case ruk => decide)) | ktr_units); (case hd => (law_clear; first | omega | ((try simp only [decide_eq_true_eq, decide_eq_false_iff_not, gj, ij, cj, jj, aj, sj, leapS] at *); first | done | omega))); intro D9 t9 u9 v9 h9 tk9 F9 N9; (try dsimp only); (try k_fold))))
local macro_rules | `(tactic| walk_at "call ref") => `(tactic| (k_here; (with_reducible show wpAny _ _ (PySem.call (Value.ref 245) [Value.int (sarY _) _, Value.int (sarM _) _, Value.int (sarD _) _, Value.str (Str.ofString "sarkawag") _]) _ _ _); k_dflt (refine' use (c_tojul_sar _ _ _ _ _ ?hd) ?k1 ?k2 ?k3 ?k4 ?k5 ?kK ?kd ?ku ?_; (case k1 => k_asm); (case k2 => k_asm); (case k3 => k_asm); (case k4 => k_asm); (case k5 => k_asm); (case kK => first | exact rfl | assumption); (case kd => first | ((with_reducible refine' room_dp ?rdh ?rdk); (case rdh => with_reducible assumption); (case rdk => decide)) | ktr_room); (case ku => first | ((with_reducible refine' room_un ?ruh ?ruk); (case ruh => with_reducible assumption); (case ruk => decide)) | ktr_units); (case hd => (law_clear; first | omega | ((try simp only [decide_eq_true_eq, decide_eq_false_iff_not, gj, ij, cj, jj, aj, sj, leapS] at *); first | done | omega))); intro D9 t9 u9 v9 h9 tk9 F9 N9; (try dsimp only); (try k_fold))))
local macro_rules | `(tactic| walk_at "call ref") => `(tactic| (k_here; (with_reducible show wpAny _ _ (PySem.call (Value.ref 253) [Value.int (latY _) _, Value.int (latM _) _, Value.int (latD _) _, Value.str (Str.ofString "sarkawag") _]) _ _ _); k_dflt (refine' use (c_fromjul_sar _ _ _ _ _ ?hd) ?k1 ?k2 ?k3 ?k4 ?k5 ?kK ?kd ?ku ?_; (case k1 => k_asm); (case k2 => k_asm); (case k3 => k_asm); (case k4 => k_asm); (case k5 => k_asm); (case kK => first | exact rfl | assumption); (case kd => first | ((with_reducible refine' room_dp ?rdh ?rdk); (case rdh => with_reducible assumption); (case rdk => decide)) | ktr_room); (case ku => first | ((with_reducible refine' room_un ?ruh ?ruk); (case ruh => with_reducible assumption); (case ruk => decide)) | ktr_units); (case hd => (law_clear; first | omega | ((try simp only [decide_eq_true_eq, decide_eq_false_iff_not, gj, ij, cj, jj, aj, sj, leapS] at *); first | done | omega))); intro D9 t9 u9 v9 h9 tk9 F9 N9; (try dsimp only); (try k_fold))))
local macro_rules | `(tactic| walk_at "call ref") => `(tactic| (k_here; (with_reducible show wpAny _ _ (PySem.call (Value.ref 261) [Value.int (sarY _) _, Value.int (sarM _) _, Value.int (sarD _) _, Value.str (Str.ofString "sarkawag") _]) _ _ _); k_dflt (refine' use (c_togreg_sar _ _ _ _ _ ?hd) ?k1 ?k2 ?k3 ?k4 ?k5 ?kK ?kd ?ku ?_; (case k1 => k_asm); (case k2 => k_asm); (case k3 => k_asm); (case k4 => k_asm); (case k5 => k_asm); (case kK => first | exact rfl | assumption); (case kd => first | ((with_reducible refine' room_dp ?rdh ?rdk); (case rdh => with_reducible assumption); (case rdk => decide)) | ktr_room); (case ku => first | ((with_reducible refine' room_un ?ruh ?ruk); (case ruh => with_reducible assumption); (case ruk => decide)) | ktr_units); (case hd => (law_clear; first | omega | ((try simp only [decide_eq_true_eq, decide_eq_false_iff_not, gj, ij, cj, jj, aj, sj, leapS] at *); first | done | omega))); intro D9 t9 u9 v9 h9 tk9 F9 N9; (try dsimp only); (try k_fold))))
local macro_rules | `(tactic| walk_at "call ref") => `(tactic| (k_here; (with_reducible show wpAny _ _ (PySem.call (Value.ref 269) [Value.int (romY _) _, Value.int (romM _) _, Value.int (romD _) _, Value.str (Str.ofString "sarkawag") _]) _ _ _); k_dflt (refine' use (c_fromgreg_sar _ _ _ _ _ ?hd) ?k1 ?k2 ?k3 ?k4 ?k5 ?kK ?kd ?ku ?_; (case k1 => k_asm); (case k2 => k_asm); (case k3 => k_asm); (case k4 => k_asm); (case k5 => k_asm); (case kK => first | exact rfl | assumption); (case kd => first | ((with_reducible refine' room_dp ?rdh ?rdk); (case rdh => with_reducible assumption); (case rdk => decide)) | ktr_room); (case ku => first | ((with_reducible refine' room_un ?ruh ?ruk); (case ruh => with_reducible assumption); (case ruk => decide)) | ktr_units); (case hd => (law_clear; first | omega | ((try simp only [decide_eq_true_eq, decide_eq_false_iff_not, gj, ij, cj, jj, aj, sj, leapS] at *); first | done | omega))); intro D9 t9 u9 v9 h9 tk9 F9 N9; (try dsimp only); (try k_fold))))
local macro_rules | `(tactic| walk_at "call ref") => `(tactic| (k_here; (with_reducible show wpAny _ _ (PySem.call (Value.ref 277) [Value.int _ _, Value.int _ _, Value.none]) _ _ _); k_dflt (refine' use (c_ml_arm _ _ _ _ ?hm) ?k1 ?k2 ?k3 ?k4 ?k5 ?kK ?kd ?ku ?_; (case k1 => k_asm); (case k2 => k_asm); (case k3 => k_asm); (case k4 => k_asm); (case k5 => k_asm); (case kK => first | exact rfl | assumption); (case kd => first | ((with_reducible refine' room_dp ?rdh ?rdk); (case rdh => with_reducible assumption); (case rdk => decide)) | ktr_room); (case ku => first | ((with_reducible refine' room_un ?ruh ?ruk); (case ruh => with_reducible assumption); (case ruk => decide)) | ktr_units); (case hm => (law_clear; first | omega | ((try simp only [decide_eq_true_eq, decide_eq_false_iff_not, gj, ij, cj, jj, aj, sj, leapS] at *); first | done | omega))); intro t9 h9 tk9 F9 N9; (try dsimp only); (try k_fold))))
local macro_rules | `(tactic| walk_at "call ref") => `(tactic| (k_here; (with_reducible show wpAny _ _ (PySem.call (Value.ref 277) [Value.int _ _, Value.int _ _, Value.str (Str.ofString "sarkawag") _]) _ _ _); k_dflt (refine' use (c_ml_sar _ _ _ _ _ ?hm) ?k1 ?k2 ?k3 ?k4 ?k5 ?kK ?kd ?ku ?_; (case k1 => k_asm); (case k2 => k_asm); (case k3 => k_asm); (case k4 => k_asm); (case k5 => k_asm); (case kK => first | exact rfl | assumption); (case kd => first | ((with_reducible refine' room_dp ?rdh ?rdk); (case rdh => with_reducible assumption); (case rdk => decide)) | ktr_room); (case ku => first | ((with_reducible refine' room_un ?ruh ?ruk); (case ruh => with_reducible assumption); (case ruk => decide)) | ktr_units); (case hm => (law_clear; first | omega | ((try simp only [decide_eq_true_eq, decide_eq_false_iff_not, gj, ij, cj, jj, aj, sj, leapS] at *); first | done | omega))); intro t9 h9 tk9 F9 N9; (try dsimp only); (try k_fold))))
local macro_rules | `(tactic| walk_at "call ref") => `(tactic| (k_here; (with_reducible show wpAny _ _ (PySem.call (Value.ref 297) [Value.int _ _]) _ _ _); k_dflt (refine' use (c_jd _ _ ?hd) ?k1 ?k2 ?k3 ?k4 ?k5 ?kK ?kd ?ku ?_; (case k1 => k_asm); (case k2 => k_asm); (case k3 => k_asm); (case k4 => k_asm); (case k5 => k_asm); (case kK => first | exact rfl | assumption); (case kd => first | ((with_reducible refine' room_dp ?rdh ?rdk); (case rdh => with_reducible assumption); (case rdk => decide)) | ktr_room); (case ku => first | ((with_reducible refine' room_un ?ruh ?ruk); (case ruh => with_reducible assumption); (case ruk => decide)) | ktr_units); (case hd => (law_clear; first | omega | ((try simp only [decide_eq_true_eq, decide_eq_false_iff_not, gj, ij, cj, jj, aj, sj, leapS] at *); first | done | omega))); intro t9 h9 tk9 F9 N9; (try dsimp only); (try k_fold))))
local macro_rules | `(tactic| walk_at "call ref") => `(tactic| (k_here; (with_reducible show wpAny _ _ (PySem.call (Value.ref 318) [Value.int _ _, Value.int 1948440 _, Value.int 1 _, Value.ref 280, Value.int 0 _]) _ _ _); k_dflt (refine' use (c_date_isl _ _ _ _ _ ?hd) ?k1 ?k2 ?k3 ?k4 ?k5 ?kK ?kd ?ku ?_; (case k1 => k_asm); (case k2 => k_asm); (case k3 => k_asm); (case k4 => k_asm); (case k5 => k_asm); (case kK => first | exact rfl | assumption); (case kd => first | ((with_reducible refine' room_dp ?rdh ?rdk); (case rdh => with_reducible assumption); (case rdk => decide)) | ktr_room); (case ku => first | ((with_reducible refine' room_un ?ruh ?ruk); (case ruh => with_reducible assumption); (case ruk => decide)) | ktr_units); (case hd => (law_clear; first | omega | ((try simp only [decide_eq_true_eq, decide_eq_false_iff_not, gj, ij, cj, jj, aj, sj, leapS] at *); first | done | omega))); intro D9 T9 L9 t9 u9 v9 vs9 n9 h9 tk9 hi9 F9 N9; (try dsimp only); (try k_fold))))
local macro_rules | `(tactic| walk_at "call ref") => `(tactic| (k_here; (with_reducible show wpAny _ _ (PySem.call (Value.ref 318) [Value.int _ _, Value.int 1825030 _, Value.int 1 _, Value.ref 281, Value.int 1 _]) _ _ _); k_dflt (refine' use (c_date_cop _ _ _ _ _ ?hd) ?k1 ?k2 ?k3 ?k4 ?k5 ?kK ?kd ?ku ?_; (case k1 => k_asm); (case k2 => k_asm); (case k3 => k_asm); (case k4 => k_asm); (case k5 => k_asm); (case kK => first | exact rfl | assumption); (case kd => first | ((with_reducible refine' room_dp ?rdh ?rdk); (case rdh => with_reducible assumption); (case rdk => decide)) | ktr_room); (case ku => first | ((with_reducible refine' room_un ?ruh ?ruk); (case ruh => with_reducible assumption); (case ruk => decide)) | ktr_units); (case hd => (law_clear; first | omega | ((try simp only [decide_eq_true_eq, decide_eq_false_iff_not, gj, ij, cj, jj, aj, sj, leapS] at *); first | done | omega))); intro D9 T9 L9 t9 u9 v9 vs9 n9 h9 tk9 hi9 F9 N9; (try dsimp only); (try k_fold))))
local macro_rules | `(tactic| walk_at "call ref") => `(tactic| (k_here; (with_reducible show wpAny _ _ (PySem.call (Value.ref 318) [Value.int _ _, Value.int 1721424 _, Value.int 1 _, Value.ref 282, Value.int 2 _]) _ _ _); k_dflt (refine' use (c_date_lat _ _ _ _ _ ?hd) ?k1 ?k2 ?k3 ?k4 ?k5 ?kK ?kd ?ku ?_; (case k1 => k_asm); (case k2 => k_asm); (case k3 => k_asm); (case k4 => k_asm); (case k5 => k_asm); (case kK => first | exact rfl | assumption); (case kd => first | ((with_reducible refine' room_dp ?rdh ?rdk); (case rdh => with_reducible assumption); (case rdk => decide)) | ktr_room); (case ku => first | ((with_reducible refine' room_un ?ruh ?ruk); (case ruh => with_reducible assumption); (case ruk => decide)) | ktr_units); (case hd => (law_clear; first | omega | ((try simp only [decide_eq_true_eq, decide_eq_false_iff_not, gj, ij, cj, jj, aj, sj, leapS] at *); first | done | omega))); intro D9 T9 L9 t9 u9 v9 vs9 n9 h9 tk9 hi9 F9 N9; (try dsimp only); (try k_fold))))
local macro_rules | `(tactic| walk_at "call ref") => `(tactic| (k_here; (with_reducible show wpAny _ _ (PySem.call (Value.ref 318) [Value.int _ _, Value.int 1922868 _, Value.int 1 _, Value.ref 283, Value.int 1 _]) _ _ _); k_dflt (refine' use (c_date_arm _ _ _ _ _ ?hd) ?k1 ?k2 ?k3 ?k4 ?k5 ?kK ?kd ?ku ?_; (case k1 => k_asm); (case k2 => k_asm); (case k3 => k_asm); (case k4 => k_asm); (case k5 => k_asm); (case kK => first | exact rfl | assumption); (case kd => first | ((with_reducible refine' room_dp ?rdh ?rdk); (case rdh => with_reducible assumption); (case rdk => decide)) | ktr_room); (case ku => first | ((with_reducible refine' room_un ?ruh ?ruk); (case ruh => with_reducible assumption); (case ruk => decide)) | ktr_units); (case hd => (law_clear; first | omega | ((try simp only [decide_eq_true_eq, decide_eq_false_iff_not, gj, ij, cj, jj, aj, sj, leapS] at *); first | done | omega))); intro D9 T9 L9 t9 u9 v9 vs9 n9 h9 tk9 hi9 F9 N9; (try dsimp only); (try k_fold))))
local macro_rules | `(tactic| walk_at "call ref") => `(tactic| (k_here; (with_reducible show wpAny _ _ (PySem.call (Value.ref 318) [Value.int _ _, Value.int 2117212 _, Value.int 533 _, Value.ref 282, Value.int 1 _]) _ _ _); k_dflt (refine' use (c_date_sar _ _ _ _ _ ?hd) ?k1 ?k2 ?k3 ?k4 ?k5 ?kK ?kd ?ku ?_; (case k1 => k_asm); (case k2 => k_asm); (case k3 => k_asm); (case k4 => k_asm); (case k5 => k_asm); (case kK => first | exact rfl | assumption); (case kd => first | ((with_reducible refine' room_dp ?rdh ?rdk); (case rdh => with_reducible assumption); (case rdk => decide)) | ktr_room); (case ku => first | ((with_reducible refine' room_un ?ruh ?ruk); (case ruh => with_reducible assumption); (case ruk => decide)) | ktr_units); (case hd => (law_clear; first | omega | ((try simp only [decide_eq_true_eq, decide_eq_false_iff_not, gj, ij, cj, jj, aj, sj, leapS] at *); first | done | omega))); intro D9 T9 L9 t9 u9 v9 vs9 n9 h9 tk9 hi9 F9 N9; (try dsimp only); (try k_fold))))
local macro_rules | `(tactic| walk_at "call ref") => `(tactic| (k_here; (with_reducible show wpAny _ _ (PySem.call (Value.ref 344) [Value.ref _, Value.ref _]) _ _ _); k_dflt (refine' use (c_next _ _ _ _ _ _ _ _ _ _ _ _ _ _ ?hi ?hl ?hm ?hx) ?k1 ?k2 ?k3 ?k4 ?k5 ?kK ?kd ?ku ?_; (case k1 => k_asm); (case k2 => k_asm); (case k3 => k_asm); (case k4 => k_asm); (case k5 => k_asm); (case kK => first | exact rfl | assumption); (case kd => first | ((with_reducible refine' room_dp ?rdh ?rdk); (case rdh => with_reducible assumption); (case rdk => decide)) | ktr_room); (case ku => first | ((with_reducible refine' room_un ?ruh ?ruk); (case ruh => with_reducible assumption); (case ruk => decide)) | ktr_units); (case hi => assumption); (case hx => assumption); (case hl => first | exact szs_len _ _ | omega); (case hm => (law_clear; first | omega | ((try simp only [decide_eq_true_eq, decide_eq_false_iff_not, gj, ij, cj, jj, aj, sj, leapS] at *); first | done | omega))); rotate_right; refine' ⟨?mT, ?_⟩; (case mT => first | k_mem | ((repeat (refine' List.Mem.tail _ ?_)); assumption)); refine' ⟨?mL, ?_⟩; (case mL => k_mem); intro D9 t9 u9 v9 h9 tk9 F9 N9; (try dsimp only); (try k_fold))))
local macro_rules | `(tactic| walk_at "eval Name") => `(tactic| (k_here; k_dflt (first | (name_kind "local"; refine' nameX_L ?F ?v ?_ ?a ?b ?c; (case F => k_asm); (case a => kernel_rfl); (case b => kernel_rfl); (case c => kernel_rfl); (case v => first | (refine' look_of ?gg ?ge; (case gg => (repeat (first | (with_reducible exact guess_hit_l) | (with_reducible apply guess_miss_l) | (with_reducible exact guess_hit_if) | ((with_reducible show Guess (@ite _ _ _ _ _) _); (with_reducible apply guess_miss_if))))); (case ge => kernel_rfl)) | exact rfl)) | (name_kind "globalImplicit"; refine' nameX_K ?F ?X ?T ?e ?_ ?a ?b ?c; (case F => k_asm); (case X => k_asm); (case T => k_asm); (case e => with_reducible (first | exact gn_law_date _ | exact gn_law_next _ | exact gn_to_jd_armenian _ | exact gn_law_jd _ | exact gn_month_length_armenian _ | exact gn_from_gregorian_armenian _ | exact gn_from_julian _ | exact gn_from_jd_armenian _ | exact gn_leap_armenian _ | exact gn_to_gregorian_armenian _ | exact gn_to_julian _)); (case a => kernel_rfl); (case b => kernel_rfl); (case c => kernel_rfl)) | (name_kind "globalImplicit"; refine' nameX_B ?F ?X ?T ?e ?v ?n ?_ ?a ?b ?c; (case F => k_asm); (case X => k_asm); (case T => k_asm); (case e => with_reducible (first | exact gb_ValueError _)); (case v => with_reducible (first | exact bb_ValueError)); (case a => kernel_rfl); (case b => kernel_rfl); (case n => decide); (case c => kernel_rfl)))))
set_option maxRecDepth 100000 in
set_option maxHeartbeats 8000000 in
theorem c_hi_arm (day : Int) (R La : Addr) (t z1 z2 z3 u1 u2 u3 v1 v2 v3 : Tok) (hd : 1922868 ≤ day ∧ day < 9000000000) :
    Claim 365 [.int day t, .none, .int 1922502 z1, .int 1922868 z2, .int 1 z3, .ref 283, .ref R, .ref La] 9 (WithT R (tup3 (romY day) u1 (romM day) u2 (romD day) u3) (WithT La (tup3 (latY day) v1 (latM day) v2 (latD day) v3) (RetV fun _ => .bool true))) := by
  refine gate_out ?_
  simp (disch := (k_dflt (
  intro prog w p loose mean mg mb dp un gd cn cs a ccd cl outer A₀ base h₀ L mm news s Q E B F X N T hk hdp hun hret
  obtain ⟨hR, hLa, hret⟩ := hret
  have hlen : ((szs 1 (armS day)).length : Int) = 13 := rfl
  have hnx := arm_next day
  have h1 : Hint ((szs 1 (armS day)).getD (armM day - 1).toNat 0) (mla (armM day)) := ⟨arm_ml day⟩
  have hM : 1 ≤ armM day ∧ armM day ≤ 13 := by
    obtain ⟨f1, f2, f3⟩ := arm_year day
    obtain ⟨g1, g2⟩ := arm_month day
    omega
  (refine wpAny_call ?_; (k_dflt cell_enter); (try ((rename Fr _ _ _ _ => F8); (first | (have F9 := Fr_as F8 (m' := fun y9 => List.lookup y9 [(Str.ofString "latin", (.ref La : Value)), (Str.ofString "roman", (.ref R : Value)), (Str.ofString "cycle", (.ref 283 : Value)), (Str.ofString "start", (.int 1 z3 : Value)), (Str.ofString "first", (.int 1922868 z2 : Value)), (Str.ofString "edge", (.int 1922502 z1 : Value)), (Str.ofString "method", (.none : Value)), (Str.ofString "day", (.int day t : Value))]) rfl) | (have F9 := Fr_as F8 (m' := fun y9 => List.lookup y9 [(Str.ofString "day", (.int day t : Value)), (Str.ofString "method", (.none : Value)), (Str.ofString "edge", (.int 1922502 z1 : Value)), (Str.ofString "first", (.int 1922868 z2 : Value)), (Str.ofString "start", (.int 1 z3 : Value)), (Str.ofString "cycle", (.ref 283 : Value)), (Str.ofString "roman", (.ref R : Value)), (Str.ofString "latin", (.ref La : Value))]) rfl)); clear F8));  k_steps; all_goals (first | (((first | (with_reducible refine' hret 0 ?_ ?_ ?cbF ?cbN) | (with_reducible refine' hret _ ?_ ?_ ?cbF ?cbN))); (case cbF => k_asm); (case cbN => first | (with_reducible assumption) | (refine' cb_drop ?cbM ?cbS; (case cbM => assumption); (case cbS => (first | (intro p9 hp9; (repeat (with_reducible refine List.mem_cons_of_mem _ ?_)); exact hp9) | kcj_all))))) | cb_end hret))))) only [↓gate_true]
end
section
local macro_rules | `(tactic| walk_at "pad") => `(tactic| fail)
local macro_rules | `(tactic| walk_at "call ref") => `(tactic| (k_here; (with_reducible show wpAny _ _ (PySem.call (Value.ref 221) [Value.int _ _]) _ _ _); k_dflt (refine' use (c_leap_arm _ _) ?k1 ?k2 ?k3 ?k4 ?k5 ?kK ?kd ?ku ?_; (case k1 => k_asm); (case k2 => k_asm); (case k3 => k_asm); (case k4 => k_asm); (case k5 => k_asm); (case kK => first | exact rfl | assumption); (case kd => first | ((with_reducible refine' room_dp ?rdh ?rdk); (case rdh => with_reducible assumption); (case rdk => decide)) | ktr_room); (case ku => first | ((with_reducible refine' room_un ?ruh ?ruk); (case ruh => with_reducible assumption); (case ruk => decide)) | ktr_units); intro t9 h9 tk9 F9 N9; (try dsimp only); (try k_fold))))
local macro_rules | `(tactic| walk_at "call ref") => `(tactic| (k_here; (with_reducible show wpAny _ _ (PySem.call (Value.ref 229) [Value.int _ _, Value.int _ _, Value.int _ _, Value.none]) _ _ _); k_dflt (refine' use (c_tojd_n _ _ _ _ _ _ ?hy ?hm ?hd ?hl) ?k1 ?k2 ?k3 ?k4 ?k5 ?kK ?kd ?ku ?_; (case k1 => k_asm); (case k2 => k_asm); (case k3 => k_asm); (case k4 => k_asm); (case k5 => k_asm); (case kK => first | exact rfl | assumption); (case kd => first | ((with_reducible refine' room_dp ?rdh ?rdk); (case rdh => with_reducible assumption); (case rdk => decide)) | ktr_room); (case ku => first | ((with_reducible refine' room_un ?ruh ?ruk); (case ruh => with_reducible assumption); (case ruk => decide)) | ktr_units); (case hy => (law_clear; first | omega | ((try simp only [decide_eq_true_eq, decide_eq_false_iff_not, gj, ij, cj, jj, aj, sj, leapS] at *); first | done | omega))); (case hm => (law_clear; first | omega | ((try simp only [decide_eq_true_eq, decide_eq_false_iff_not, gj, ij, cj, jj, aj, sj, leapS] at *); first | done | omega))); (case hd => (law_clear; first | omega | ((try simp only [decide_eq_true_eq, decide_eq_false_iff_not, gj, ij, cj, jj, aj, sj, leapS] at *); first | done | omega))); (case hl => (law_clear; first | omega | ((try simp only [decide_eq_true_eq, decide_eq_false_iff_not, gj, ij, cj, jj, aj, sj, leapS] at *); first | done | omega))); intro t9 h9 tk9 F9 N9; (try dsimp only); (try k_fold))))
local macro_rules | `(tactic| walk_at "call ref") => `(tactic| (k_here; (with_reducible show wpAny _ _ (PySem.call (Value.ref 229) [Value.int _ _, Value.int _ _, Value.int _ _, Value.str (Str.ofString "sarkawag") _]) _ _ _); k_dflt (refine' use (c_tojd_s _ _ _ _ _ _ _ ?hy ?hm ?hd ?hl) ?k1 ?k2 ?k3 ?k4 ?k5 ?kK ?kd ?ku ?_; (case k1 => k_asm); (case k2 => k_asm); (case k3 => k_asm); (case k4 => k_asm); (case k5 => k_asm); (case kK => first | exact rfl | assumption); (case kd => first | ((with_reducible refine' room_dp ?rdh ?rdk); (case rdh => with_reducible assumption); (case rdk => decide)) | ktr_room); (case ku => first | ((with_reducible refine' room_un ?ruh ?ruk); (case ruh => with_reducible assumption); (case ruk => decide)) | ktr_units); (case hy => (law_clear; first | omega | ((try simp only [decide_eq_true_eq, decide_eq_false_iff_not, gj, ij, cj, jj, aj, sj, leapS] at *); first | done | omega))); (case hm => (law_clear; first | omega | ((try simp only [decide_eq_true_eq, decide_eq_false_iff_not, gj, ij, cj, jj, aj, sj, leapS] at *); first | done | omega))); (case hd => (law_clear; first | omega | ((try simp only [decide_eq_true_eq, decide_eq_false_iff_not, gj, ij, cj, jj, aj, sj, leapS] at *); first | done | omega))); (case hl => (law_clear; first | omega | ((try simp only [decide_eq_true_eq, decide_eq_false_iff_not, gj, ij, cj, jj, aj, sj, leapS] at *); first | done | omega))); intro t9 h9 tk9 F9 N9; (try dsimp only); (try k_fold))))
local macro_rules | `(tactic| walk_at "call ref") => `(tactic| (k_here; (with_reducible show wpAny _ _ (PySem.call (Value.ref 229) [Value.int (armY _) _, Value.int (armM _) _, Value.int (armD _) _, Value.none]) _ _ _); k_dflt (refine' use (c_tojd_arm_at _ _ _ _ ?hd) ?k1 ?k2 ?k3 ?k4 ?k5 ?kK ?kd ?ku ?_; (case k1 => k_asm); (case k2 => k_asm); (case k3 => k_asm); (case k4 => k_asm); (case k5 => k_asm); (case kK => first | exact rfl | assumption); (case kd => first | ((with_reducible refine' room_dp ?rdh ?rdk); (case rdh => with_reducible assumption); (case rdk => decide)) | ktr_room); (case ku => first | ((with_reducible refine' room_un ?ruh ?ruk); (case ruh => with_reducible assumption); (case ruk => decide)) | ktr_units); (case hd => (law_clear; first | omega | ((try simp only [decide_eq_true_eq, decide_eq_false_iff_not, gj, ij, cj, jj, aj, sj, leapS] at *); first | done | omega))); intro t9 h9 tk9 F9 N9; (try dsimp only); (try k_fold))))
local macro_rules | `(tactic| walk_at "call ref") => `(tactic| (k_here; (with_reducible show wpAny _ _ (PySem.call (Value.ref 229) [Value.int (sarY _) _, Value.int (sarM _) _, Value.int (sarD _) _, Value.str (Str.ofString "sarkawag") _]) _ _ _); k_dflt (refine' use (c_tojd_sar_at _ _ _ _ _ ?hd) ?k1 ?k2 ?k3 ?k4 ?k5 ?kK ?kd ?ku ?_; (case k1 => k_asm); (case k2 => k_asm); (case k3 => k_asm); (case k4 => k_asm); (case k5 => k_asm); (case kK => first | exact rfl | assumption); (case kd => first | ((with_reducible refine' room_dp ?rdh ?rdk); (case rdh => with_reducible assumption); (case rdk => decide)) | ktr_room); (case ku => first | ((with_reducible refine' room_un ?ruh ?ruk); (case ruh => with_reducible assumption); (case ruk => decide)) | ktr_units); (case hd => (law_clear; first | omega | ((try simp only [decide_eq_true_eq, decide_eq_false_iff_not, gj, ij, cj, jj, aj, sj, leapS] at *); first | done | omega))); intro t9 h9 tk9 F9 N9; (try dsimp only); (try k_fold))))
local macro_rules | `(tactic| walk_at "call ref") => `(tactic| (k_here; (with_reducible show wpAny _ _ (PySem.call (Value.ref 237) [Value.float (H (2 * _ - 1)) _, Value.none]) _ _ _); k_dflt (refine' use (c_fromjd_arm _ _ ?hd) ?k1 ?k2 ?k3 ?k4 ?k5 ?kK ?kd ?ku ?_; (case k1 => k_asm); (case k2 => k_asm); (case k3 => k_asm); (case k4 => k_asm); (case k5 => k_asm); (case kK => first | exact rfl | assumption); (case kd => first | ((with_reducible refine' room_dp ?rdh ?rdk); (case rdh => with_reducible assumption); (case rdk => decide)) | ktr_room); (case ku => first | ((with_reducible refine' room_un ?ruh ?ruk); (case ruh => with_reducible assumption); (case ruk => decide)) | ktr_units); (case hd => (law_clear; first | omega | ((try simp only [decide_eq_true_eq, decide_eq_false_iff_not, gj, ij, cj, jj, aj, sj, leapS] at *); first | done | omega))); intro D9 t9 u9 v9 h9 tk9 F9 N9; (try dsimp only); (try k_fold))))
local macro_rules | `(tactic| walk_at "call ref") => `(tactic| (k_here; (with_reducible show wpAny _ _ (PySem.call (Value.ref 237) [Value.float (H (2 * _ - 1)) _, Value.str (Str.ofString "sarkawag") _]) _ _ _); k_dflt (refine' use (c_fromjd_sar _ _ _ ?hd) ?k1 ?k2 ?k3 ?k4 ?k5 ?kK ?kd ?ku ?_; (case k1 => k_asm); (case k2 => k_asm); (case k3 => k_asm); (case k4 => k_asm); (case k5 => k_asm); (case kK => first | exact rfl | assumption); (case kd => first | ((with_reducible refine' room_dp ?rdh ?rdk); (case rdh => with_reducible assumption); (case rdk => decide)) | ktr_room); (case ku => first | ((with_reducible refine' room_un ?ruh ?ruk); (case ruh => with_reducible assumption); (case ruk => decide)) | ktr_units); (case hd => (law_clear; first | omega | ((try simp only [decide_eq_true_eq, decide_eq_false_iff_not, gj, ij, cj, jj, aj, sj, leapS] at *); first | done | omega))); intro D9 t9 u9 v9 h9 tk9 F9 N9; (try dsimp only); (try k_fold))))
local macro_rules | `(tactic| walk_at "call ref") => `(tactic| (k_here; (with_reducible show wpAny _ _ (PySem.call (Value.ref 245) [Value.int (armY _) _, Value.int (armM _) _, Value.int (armD _) _, Value.none]) _ _ _); k_dflt (refine' use (c_tojul_arm _ _ _ _ ?hd) ?k1 ?k2 ?k3 ?k4 ?k5 ?kK ?kd ?ku ?_; (case k1 => k_asm); (case k2 => k_asm); (case k3 => k_asm); (case k4 => k_asm); (case k5 => k_asm); (case kK => first | exact rfl | assumption); (case kd => first | ((with_reducible refine' room_dp ?rdh ?rdk); (case rdh => with_reducible assumption); (case rdk => decide)) | ktr_room); (case ku => first | ((with_reducible refine' room_un ?ruh ?ruk); (case ruh => with_reducible assumption); (case ruk => decide)) | ktr_units); (case hd => (law_clear; first | omega | ((try simp only [decide_eq_true_eq, decide_eq_false_iff_not, gj, ij, cj, jj, aj, sj, leapS] at *); first | done | omega))); intro D9 t9 u9 v9 h9 tk9 F9 N9; (try dsimp only); (try k_fold))))
local macro_rules | `(tactic| walk_at "call ref") => `(tactic| (k_here; (with_reducible show wpAny _ _ (PySem.call (Value.ref 253) [Value.int (latY _) _, Value.int (latM _) _, Value.int (latD _) _, Value.none]) _ _ _); k_dflt (refine' use (c_fromjul_arm _ _ _ _ ?hd) ?k1 ?k2 ?k3 ?k4 ?k5 ?kK ?kd ?ku ?_; (case k1 => k_asm); (case k2 => k_asm); (case k3 => k_asm); (case k4 => k_asm); (case k5 => k_asm); (case kK => first | exact rfl | assumption); (case kd => first | ((with_reducible refine' room_dp ?rdh ?rdk); (case rdh => with_reducible assumption); (case rdk => decide)) | ktr_room); (case ku => first | ((with_reducible refine' room_un ?ruh ?ruk); (case ruh => with_reducible assumption); (case ruk => decide)) | ktr_units); (case hd => (law_clear; first | omega | ((try simp only [decide_eq_true_eq, decide_eq_false_iff_not, gj, ij, cj, jj, aj, sj, leapS] at *); first | done | omega))); intro D9 t9 u9 v9 h9 tk9 F9 N9; (try dsimp only); (try k_fold))))
local macro_rules | `(tactic| walk_at "call ref") => `(tactic| (k_here; (with_reducible show wpAny _ _ (PySem.call (Value.ref 261) [Value.int (armY _) _, Value.int (armM _) _, Value.int (armD _) _, Value.none]) _ _ _); k_dflt (refine' use (c_togreg_arm _ _ _ _ ?hd) ?k1 ?k2 ?k3 ?k4 ?k5 ?kK ?kd ?ku ?_; (case k1 => k_asm); (case k2 => k_asm); (case k3 => k_asm); (case k4 => k_asm); (case k5 => k_asm); (case kK => first | exact rfl | assumption); (case kd => first | ((with_reducible refine' room_dp ?rdh ?rdk); (case rdh => with_reducible assumption); (case rdk => decide)) | ktr_room); (case ku => first | ((with_reducible refine' room_un ?ruh ?ruk); (case ruh => with_reducible assumption); (case ruk => decide)) | ktr_units); (case hd => (law_clear; first | omega | ((try simp only [decide_eq_true_eq, decide_eq_false_iff_not, gj, ij, cj, jj, aj, sj, leapS] at *); first | done | omega))); intro D9 t9 u9 v9 h9 tk9 F9 N9; (try dsimp only); (try k_fold))))
local macro_rules | `(tactic| walk_at "call ref") => `(tactic| (k_here; (with_reducible show wpAny _ _ (PySem.call (Value.ref 269) [Value.int (romY _) _, Value.int (romM _) _, Value.int (romD _) _, Value.none]) _ _ _); k_dflt (refine' use (c_fromgreg_arm _ _ _ _ ?hd) ?k1 ?k2 ?k3 ?k4 ?k5 ?kK ?kd ?ku ?_; (case k1 => k_asm); (case k2 => k_asm); (case k3 => k_asm); (case k4 => k_asm); (case k5 => k_asm); (case kK => first | exact rfl | assumption); (case kd => first | ((with_reducible refine' room_dp ?rdh ?rdk); (case rdh => with_reducible assumption); (case rdk => decide)) | ktr_room); (case ku => first | ((with_reducible refine' room_un ?ruh ?ruk); (case ruh => with_reducible assumption); (case ruk => decide)) | ktr_units); (case hd => (law_clear; first | omega | ((try simp only [decide_eq_true_eq, decide_eq_false_iff_not, gj, ij, cj, jj, aj, sj, leapS] at *); first | done | omega))); intro D9 t9 u9 v9 h9 tk9 F9 N9; (try dsimp only); (try k_fold))))
local macro_rules | `(tactic| walk_at "call ref") => `(tactic| (k_here; (with_reducible show wpAny _ _ (PySem.call (Value.ref 245) [Value.int (sarY _) _, Value.int (sarM _) _, Value.int (sarD _) _, Value.str (Str.ofString "sarkawag") _]) _ _ _); k_dflt (refine' use (c_tojul_sar _ _ _ _ _ ?hd) ?k1 ?k2 ?k3 ?k4 ?k5 ?kK ?kd ?ku ?_; (case k1 => k_asm); (case k2 => k_asm); (case k3 => k_asm); (case k4 => k_asm); (case k5 => k_asm); (case kK => first | exact rfl | assumption); (case kd => first | ((with_reducible refine' room_dp ?rdh ?rdk); (case rdh => with_reducible assumption); (case rdk => decide)) | ktr_room); (case ku => first | ((with_reducible refine' room_un ?ruh ?ruk); (case ruh => with_reducible assumption); (case ruk => decide)) | ktr_units); (case hd => (law_clear; first | omega | ((try simp only [decide_eq_true_eq, decide_eq_false_iff_not, gj, ij, cj, jj, aj, sj, leapS] at *); first | done | omega))); intro D9 t9 u9 v9 h9 tk9 F9 N9; (try dsimp only); (try k_fold))))
local macro_rules | `(tactic| walk_at "call ref") => `(tactic| (k_here; (with_reducible show wpAny _ _ (PySem.call (Value.ref 253) [Value.int (latY _) _, Value.int (latM _) _, Value.int (latD _) _, Value.str (Str.ofString "sarkawag") _]) _ _ _); k_dflt (refine' use (c_fromjul_sar _ _ _ _ _ ?hd) ?k1 ?k2 ?k3 ?k4 ?k5 ?kK ?kd ?ku ?_; (case k1 => k_asm); (case k2 => k_asm); (case k3 => k_asm); (case k4 => k_asm); (case k5 => k_asm); (case kK => first | exact rfl | assumption); (case kd => first | ((with_reducible refine' room_dp ?rdh ?rdk); (case rdh => with_reducible assumption); (case rdk => decide)) | ktr_room); (case ku => first | ((with_reducible refine' room_un ?ruh ?ruk); (case ruh => with_reducible assumption); (case ruk => decide)) | ktr_units); (case hd => (law_clear; first | omega | ((try simp only [decide_eq_true_eq, decide_eq_false_iff_not, gj, ij, cj, jj, aj, sj, leapS] at *); first | done | omega))); intro D9 t9 u9 v9 h9 tk9 F9 N9; (try dsimp only); (try k_fold))))
local macro_rules | `(tactic| walk_at "call ref") => `(tactic| (k_here; (with_reducible show wpAny _ _ (PySem.call (Value.ref 261) [Value.int (sarY _) _, Value.int (sarM _) _, Value.int (sarD _) _, Value.str (Str.ofString "sarkawag") _]) _ _ _); k_dflt (refine' use (c_togreg_sar _ _ _ _ _ ?hd) ?k1 ?k2 ?k3 ?k4 ?k5 ?kK ?kd ?ku ?_; (case k1 => k_asm); (case k2 => k_asm); (case k3 => k_asm); (case k4 => k_asm); (case k5 => k_asm); (case kK => first | exact rfl | assumption); (case kd => first | ((with_reducible refine' room_dp ?rdh ?rdk); (case rdh => with_reducible assumption); (case rdk => decide)) | ktr_room); (case ku => first | ((with_reducible refine' room_un ?ruh ?ruk); (case ruh => with_reducible assumption); (case ruk => decide)) | ktr_units); (case hd => (law_clear; first | omega | ((try simp only [decide_eq_true_eq, decide_eq_false_iff_not, gj, ij, cj, jj, aj, sj, leapS] at *); first | done | omega))); intro D9 t9 u9 v9 h9 tk9 F9 N9; (try dsimp only); (try k_fold))))
local macro_rules | `(tactic| walk_at "call ref") => `(tactic| (k_here; (with_reducible show wpAny _ _ (PySem.call (Value.ref 269) [Value.int (romY _) _, Value.int (romM _) _, Value.int (romD _) _, Value.str (Str.ofString "sarkawag") _]) _ _ _); k_dflt (refine' use (c_fromgreg_sar _ _ _ _ _ ?hd) ?k1 ?k2 ?k3 ?k4 ?k5 ?kK ?kd ?ku ?_; (case k1 => k_asm); (case k2 => k_asm); (case k3 => k_asm); (case k4 => k_asm); (case k5 => k_asm); (case kK => first | exact rfl | assumption); (case kd => first | ((with_reducible refine' room_dp ?rdh ?rdk); (case rdh => with_reducible assumption); (case rdk => decide)) | ktr_room); (case ku => first | ((with_reducible refine' room_un ?ruh ?ruk); (case ruh => with_reducible assumption); (case ruk => decide)) | ktr_units); (case hd => (law_clear; first | omega | ((try simp only [decide_eq_true_eq, decide_eq_false_iff_not, gj, ij, cj, jj, aj, sj, leapS] at *); first | done | omega))); intro D9 t9 u9 v9 h9 tk9 F9 N9; (try dsimp only); (try k_fold))))
local macro_rules | `(tactic| walk_at "call ref") => `(tactic| (k_here; (with_reducible show wpAny _ _ (PySem.call (Value.ref 277) [Value.int _ _, Value.int _ _, Value.none]) _ _ _); k_dflt (refine' use (c_ml_arm _ _ _ _ ?hm) ?k1 ?k2 ?k3 ?k4 ?k5 ?kK ?kd ?ku ?_; (case k1 => k_asm); (case k2 => k_asm); (case k3 => k_asm); (case k4 => k_asm); (case k5 => k_asm); (case kK => first | exact rfl | assumption); (case kd => first | ((with_reducible refine' room_dp ?rdh ?rdk); (case rdh => with_reducible assumption); (case rdk => decide)) | ktr_room); (case ku => first | ((with_reducible refine' room_un ?ruh ?ruk); (case ruh => with_reducible assumption); (case ruk => decide)) | ktr_units); (case hm => (law_clear; first | omega | ((try simp only [decide_eq_true_eq, decide_eq_false_iff_not, gj, ij, cj, jj, aj, sj, leapS] at *); first | done | omega))); intro t9 h9 tk9 F9 N9; (try dsimp only); (try k_fold))))
local macro_rules | `(tactic| walk_at "call ref") => `(tactic| (k_here; (with_reducible show wpAny _ _ (PySem.call (Value.ref 277) [Value.int _ _, Value.int _ _, Value.str (Str.ofString "sarkawag") _]) _ _ _); k_dflt (refine' use (c_ml_sar _ _ _ _ _ ?hm) ?k1 ?k2 ?k3 ?k4 ?k5 ?kK ?kd ?ku ?_; (case k1 => k_asm); (case k2 => k_asm); (case k3 => k_asm); (case k4 => k_asm); (case k5 => k_asm); (case kK => first | exact rfl | assumption); (case kd => first | ((with_reducible refine' room_dp ?rdh ?rdk); (case rdh => with_reducible assumption); (case rdk => decide)) | ktr_room); (case ku => first | ((with_reducible refine' room_un ?ruh ?ruk); (case ruh => with_reducible assumption); (case ruk => decide)) | ktr_units); (case hm => (law_clear; first | omega | ((try simp only [decide_eq_true_eq, decide_eq_false_iff_not, gj, ij, cj, jj, aj, sj, leapS] at *); first | done | omega))); intro t9 h9 tk9 F9 N9; (try dsimp only); (try k_fold))))
local macro_rules | `(tactic| walk_at "call ref") => `(tactic| (k_here; (with_reducible show wpAny _ _ (PySem.call (Value.ref 297) [Value.int _ _]) _ _ _); k_dflt (refine' use (c_jd _ _ ?hd) ?k1 ?k2 ?k3 ?k4 ?k5 ?kK ?kd ?ku ?_; (case k1 => k_asm); (case k2 => k_asm); (case k3 => k_asm); (case k4 => k_asm); (case k5 => k_asm); (case kK => first | exact rfl | assumption); (case kd => first | ((with_reducible refine' room_dp ?rdh ?rdk); (case rdh => with_reducible assumption); (case rdk => decide)) | ktr_room); (case ku => first | ((with_reducible refine' room_un ?ruh ?ruk); (case ruh => with_reducible assumption); (case ruk => decide)) | ktr_units); (case hd => (law_clear; first | omega | ((try simp only [decide_eq_true_eq, decide_eq_false_iff_not, gj, ij, cj, jj, aj, sj, leapS] at *); first | done | omega))); intro t9 h9 tk9 F9 N9; (try dsimp only); (try k_fold))))
local macro_rules | `(tactic| walk_at "call ref") => `(tactic| (k_here; (with_reducible show wpAny _ _ (PySem.call (Value.ref 318) [Value.int _ _, Value.int 1948440 _, Value.int 1 _, Value.ref 280, Value.int 0 _]) _ _ _); k_dflt (refine' use (c_date_isl _ _ _ _ _ ?hd) ?k1 ?k2 ?k3 ?k4 ?k5 ?kK ?kd ?ku ?_; (case k1 => k_asm); (case k2 => k_asm); (case k3 => k_asm); (case k4 => k_asm); (case k5 => k_asm); (case kK => first | exact rfl | assumption); (case kd => first | ((with_reducible refine' room_dp ?rdh ?rdk); (case rdh => with_reducible assumption); (case rdk => decide)) | ktr_room); (case ku => first | ((with_reducible refine' room_un ?ruh ?ruk); (case ruh => with_reducible assumption); (case ruk => decide)) | ktr_units); (case hd => (law_clear; first | omega | ((try simp only [decide_eq_true_eq, decide_eq_false_iff_not, gj, ij, cj, jj, aj, sj, leapS] at *); first | done | omega))); intro D9 T9 L9 t9 u9 v9 vs9 n9 h9 tk9 hi9 F9 N9; (try dsimp only); (try k_fold))))
local macro_rules | `(tactic| walk_at "call ref") => `(tactic| (k_here; (with_reducible show wpAny _ _ (PySem.call (Value.ref 318) [Value.int _ _, Value.int 1825030 _, Value.int 1 _, Value.ref 281, Value.int 1 _]) _ _ _); k_dflt (refine' use (c_date_cop _ _ _ _ _ ?hd) ?k1 ?k2 ?k3 ?k4 ?k5 ?kK ?kd ?ku ?_; (case k1 => k_asm); (case k2 => k_asm); (case k3 => k_asm); (case k4 => k_asm); (case k5 => k_asm); (case kK => first | exact rfl | assumption); (case kd => first | ((with_reducible refine' room_dp ?rdh ?rdk); (case rdh => with_reducible assumption); (case rdk => decide)) | ktr_room); (case ku => first | ((with_reducible refine' room_un ?ruh ?ruk); (case ruh => with_reducible assumption); (case ruk => decide)) | ktr_units); (case hd => (law_clear; first | omega | ((try simp only [decide_eq_true_eq, decide_eq_false_iff_not, gj, ij, cj, jj, aj, sj, leapS] at *); first | done | omega))); intro D9 T9 L9 t9 u9 v9 vs9 n9 h9 tk9 hi9 F9 N9; (try dsimp only); (try k_fold))))
local macro_rules | `(tactic| walk_at "call ref") => `(tactic| (k_here; (with_reducible show wpAny _ _ (PySem.call (Value.ref 318) [Value.int _ _, Value.int 1721424 _, Value.int 1 _, Value.ref 282, Value.int 2 _]) _ _ _); k_dflt (refine' use (c_date_lat _ _ _ _ _ ?hd) ?k1 ?k2 ?k3 ?k4 ?k5 ?kK ?kd ?ku ?_; (case k1 => k_asm); (case k2 => k_asm); (case k3 => k_asm); (case k4 => k_asm); (case k5 => k_asm); (case kK => first | exact rfl | assumption); (case kd => first | ((with_reducible refine' room_dp ?rdh ?rdk); (case rdh => with_reducible assumption); (case rdk => decide)) | ktr_room); (case ku => first | ((with_reducible refine' room_un ?ruh ?ruk); (case ruh => with_reducible assumption); (case ruk => decide)) | ktr_units); (case hd => (law_clear; first | omega | ((try simp only [decide_eq_true_eq, decide_eq_false_iff_not, gj, ij, cj, jj, aj, sj, leapS] at *); first | done | omega))); intro D9 T9 L9 t9 u9 v9 vs9 n9 h9 tk9 hi9 F9 N9; (try dsimp only); (try k_fold))))
local macro_rules | `(tactic| walk_at "call ref") => `(tactic| (k_here; (with_reducible show wpAny _ _ (PySem.call (Value.ref 318) [Value.int _ _, Value.int 1922868 _, Value.int 1 _, Value.ref 283, Value.int 1 _]) _ _ _); k_dflt (refine' use (c_date_arm _ _ _ _ _ ?hd) ?k1 ?k2 ?k3 ?k4 ?k5 ?kK ?kd ?ku ?_; (case k1 => k_asm); (case k2 => k_asm); (case k3 => k_asm); (case k4 => k_asm); (case k5 => k_asm); (case kK => first | exact rfl | assumption); (case kd => first | ((with_reducible refine' room_dp ?rdh ?rdk); (case rdh => with_reducible assumption); (case rdk => decide)) | ktr_room); (case ku => first | ((with_reducible refine' room_un ?ruh ?ruk); (case ruh => with_reducible assumption); (case ruk => decide)) | ktr_units); (case hd => (law_clear; first | omega | ((try simp only [decide_eq_true_eq, decide_eq_false_iff_not, gj, ij, cj, jj, aj, sj, leapS] at *); first | done | omega))); intro D9 T9 L9 t9 u9 v9 vs9 n9 h9 tk9 hi9 F9 N9; (try dsimp only); (try k_fold))))
local macro_rules | `(tactic| walk_at "call ref") => `(tactic| (k_here; (with_reducible show wpAny _ _ (PySem.call (Value.ref 318) [Value.int _ _, Value.int 2117212 _, Value.int 533 _, Value.ref 282, Value.int 1 _]) _ _ _); k_dflt (refine' use (c_date_sar _ _ _ _ _ ?hd) ?k1 ?k2 ?k3 ?k4 ?k5 ?kK ?kd ?ku ?_; (case k1 => k_asm); (case k2 => k_asm); (case k3 => k_asm); (case k4 => k_asm); (case k5 => k_asm); (case kK => first | exact rfl | assumption); (case kd => first | ((with_reducible refine' room_dp ?rdh ?rdk); (case rdh => with_reducible assumption); (case rdk => decide)) | ktr_room); (case ku => first | ((with_reducible refine' room_un ?ruh ?ruk); (case ruh => with_reducible assumption); (case ruk => decide)) | ktr_units); (case hd => (law_clear; first | omega | ((try simp only [decide_eq_true_eq, decide_eq_false_iff_not, gj, ij, cj, jj, aj, sj, leapS] at *); first | done | omega))); intro D9 T9 L9 t9 u9 v9 vs9 n9 h9 tk9 hi9 F9 N9; (try dsimp only); (try k_fold))))
local macro_rules | `(tactic| walk_at "call ref") => `(tactic| (k_here; (with_reducible show wpAny _ _ (PySem.call (Value.ref 344) [Value.ref _, Value.ref _]) _ _ _); k_dflt (refine' use (c_next _ _ _ _ _ _ _ _ _ _ _ _ _ _ ?hi ?hl ?hm ?hx) ?k1 ?k2 ?k3 ?k4 ?k5 ?kK ?kd ?ku ?_; (case k1 => k_asm); (case k2 => k_asm); (case k3 => k_asm); (case k4 => k_asm); (case k5 => k_asm); (case kK => first | exact rfl | assumption); (case kd => first | ((with_reducible refine' room_dp ?rdh ?rdk); (case rdh => with_reducible assumption); (case rdk => decide)) | ktr_room); (case ku => first | ((with_reducible refine' room_un ?ruh ?ruk); (case ruh => with_reducible assumption); (case ruk => decide)) | ktr_units); (case hi => assumption); (case hx => assumption); (case hl => first | exact szs_len _ _ | omega); (case hm => (law_clear; first | omega | ((try simp only [decide_eq_true_eq, decide_eq_false_iff_not, gj, ij, cj, jj, aj, sj, leapS] at *); first | done | omega))); rotate_right; refine' ⟨?mT, ?_⟩; (case mT => first | k_mem | ((repeat (refine' List.Mem.tail _ ?_)); assumption)); refine' ⟨?mL, ?_⟩; (case mL => k_mem); intro D9 t9 u9 v9 h9 tk9 F9 N9; (try dsimp only); (try k_fold))))
local macro_rules | `(tactic| walk_at "eval Name") => `(tactic| (k_here; k_dflt (first | (name_kind "local"; refine' nameX_L ?F ?v ?_ ?a ?b ?c; (case F => k_asm); (case a => kernel_rfl); (case b => kernel_rfl); (case c => kernel_rfl); (case v => first | (refine' look_of ?gg ?ge; (case gg => (repeat (first | (with_reducible exact guess_hit_l) | (with_reducible apply guess_miss_l) | (with_reducible exact guess_hit_if) | ((with_reducible show Guess (@ite _ _ _ _ _) _); (with_reducible apply guess_miss_if))))); (case ge => kernel_rfl)) | exact rfl)) | (name_kind "globalImplicit"; refine' nameX_K ?F ?X ?T ?e ?_ ?a ?b ?c; (case F => k_asm); (case X => k_asm); (case T => k_asm); (case e => with_reducible (first | exact gn_law_date _ | exact gn_law_next _ | exact gn_to_jd_armenian _ | exact gn_law_jd _ | exact gn_month_length_armenian _ | exact gn_from_gregorian_armenian _ | exact gn_from_julian _ | exact gn_from_jd_armenian _ | exact gn_leap_armenian _ | exact gn_to_gregorian_armenian _ | exact gn_to_julian _)); (case a => kernel_rfl); (case b => kernel_rfl); (case c => kernel_rfl)) | (name_kind "globalImplicit"; refine' nameX_B ?F ?X ?T ?e ?v ?n ?_ ?a ?b ?c; (case F => k_asm); (case X => k_asm); (case T => k_asm); (case e => with_reducible (first | exact gb_ValueError _)); (case v => with_reducible (first | exact bb_ValueError)); (case a => kernel_rfl); (case b => kernel_rfl); (case n => decide); (case c => kernel_rfl)))))
set_option maxRecDepth 100000 in
set_option maxHeartbeats 8000000 in
theorem c_mid_arm (day : Int) (R La : Addr) (t z1 z2 z3 u1 u2 u3 v1 v2 v3 : Tok) (hd : 1922502 ≤ day ∧ day < 1922868) :
    Claim 365 [.int day t, .none, .int 1922502 z1, .int 1922868 z2, .int 1 z3, .ref 283, .ref R, .ref La] 9 (WithT R (tup3 (romY day) u1 (romM day) u2 (romD day) u3) (WithT La (tup3 (latY day) v1 (latM day) v2 (latD day) v3) (RetV fun _ => .bool true))) := by
  refine gate_out ?_
  simp (disch := (k_dflt (
  intro prog w p loose mean mg mb dp un gd cn cs a ccd cl outer A₀ base h₀ L mm news s Q E B F X N T hk hdp hun hret
  obtain ⟨hR, hLa, hret⟩ := hret
  (refine wpAny_call ?_; (k_dflt cell_enter); (try ((rename Fr _ _ _ _ => F8); (first | (have F9 := Fr_as F8 (m' := fun y9 => List.lookup y9 [(Str.ofString "latin", (.ref La : Value)), (Str.ofString "roman", (.ref R : Value)), (Str.ofString "cycle", (.ref 283 : Value)), (Str.ofString "start", (.int 1 z3 : Value)), (Str.ofString "first", (.int 1922868 z2 : Value)), (Str.ofString "edge", (.int 1922502 z1 : Value)), (Str.ofString "method", (.none : Value)), (Str.ofString "day", (.int day t : Value))]) rfl) | (have F9 := Fr_as F8 (m' := fun y9 => List.lookup y9 [(Str.ofString "day", (.int day t : Value)), (Str.ofString "method", (.none : Value)), (Str.ofString "edge", (.int 1922502 z1 : Value)), (Str.ofString "first", (.int 1922868 z2 : Value)), (Str.ofString "start", (.int 1 z3 : Value)), (Str.ofString "cycle", (.ref 283 : Value)), (Str.ofString "roman", (.ref R : Value)), (Str.ofString "latin", (.ref La : Value))]) rfl)); clear F8));  k_steps; all_goals (first | (((first | (with_reducible refine' hret 0 ?_ ?_ ?cbF ?cbN) | (with_reducible refine' hret _ ?_ ?_ ?cbF ?cbN))); (case cbF => k_asm); (case cbN => first | (with_reducible assumption) | (refine' cb_drop ?cbM ?cbS; (case cbM => assumption); (case cbS => (first | (intro p9 hp9; (repeat (with_reducible refine List.mem_cons_of_mem _ ?_)); exact hp9) | kcj_all))))) | cb_end hret))))) only [↓gate_true]
end
section
local macro_rules | `(tactic| walk_at "call ref") => `(tactic| (k_here; (with_reducible show wpAny _ _ (PySem.call (Value.ref 221) [Value.int _ _]) _ _ _); k_dflt (refine' use (c_leap_arm _ _) ?k1 ?k2 ?k3 ?k4 ?k5 ?kK ?kd ?ku ?_; (case k1 => k_asm); (case k2 => k_asm); (case k3 => k_asm); (case k4 => k_asm); (case k5 => k_asm); (case kK => first | exact rfl | assumption); (case kd => first | ((with_reducible refine' room_dp ?rdh ?rdk); (case rdh => with_reducible assumption); (case rdk => decide)) | ktr_room); (case ku => first | ((with_reducible refine' room_un ?ruh ?ruk); (case ruh => with_reducible assumption); (case ruk => decide)) | ktr_units); intro t9 h9 tk9 F9 N9; (try dsimp only); (try k_fold))))
local macro_rules | `(tactic| walk_at "call ref") => `(tactic| (k_here; (with_reducible show wpAny _ _ (PySem.call (Value.ref 229) [Value.int _ _, Value.int _ _, Value.int _ _, Value.none]) _ _ _); k_dflt (refine' use (c_tojd_n _ _ _ _ _ _ ?hy ?hm ?hd ?hl) ?k1 ?k2 ?k3 ?k4 ?k5 ?kK ?kd ?ku ?_; (case k1 => k_asm); (case k2 => k_asm); (case k3 => k_asm); (case k4 => k_asm); (case k5 => k_asm); (case kK => first | exact rfl | assumption); (case kd => first | ((with_reducible refine' room_dp ?rdh ?rdk); (case rdh => with_reducible assumption); (case rdk => decide)) | ktr_room); (case ku => first | ((with_reducible refine' room_un ?ruh ?ruk); (case ruh => with_reducible assumption); (case ruk => decide)) | ktr_units); (case hy => (law_clear; first | omega | ((try simp only [decide_eq_true_eq, decide_eq_false_iff_not, gj, ij, cj, jj, aj, sj, leapS] at *); first | done | omega))); (case hm => (law_clear; first | omega | ((try simp only [decide_eq_true_eq, decide_eq_false_iff_not, gj, ij, cj, jj, aj, sj, leapS] at *); first | done | omega))); (case hd => (law_clear; first | omega | ((try simp only [decide_eq_true_eq, decide_eq_false_iff_not, gj, ij, cj, jj, aj, sj, leapS] at *); first | done | omega))); (case hl => (law_clear; first | omega | ((try simp only [decide_eq_true_eq, decide_eq_false_iff_not, gj, ij, cj, jj, aj, sj, leapS] at *); first | done | omega))); intro t9 h9 tk9 F9 N9; (try dsimp only); (try k_fold))))
local macro_rules | `(tactic| walk_at "call ref") => `(tactic| (k_here; (with_reducible show wpAny _ _ (PySem.call (Value.ref 229) [Value.int _ _, Value.int _ _, Value.int _ _, Value.str (Str.ofString "sarkawag") _]) _ _ _); k_dflt (refine' use (c_tojd_s _ _ _ _ _ _ _ ?hy ?hm ?hd ?hl) ?k1 ?k2 ?k3 ?k4 ?k5 ?kK ?kd ?ku ?_; (case k1 => k_asm); (case k2 => k_asm); (case k3 => k_asm); (case k4 => k_asm); (case k5 => k_asm); (case kK => first | exact rfl | assumption); (case kd => first | ((with_reducible refine' room_dp ?rdh ?rdk); (case rdh => with_reducible assumption); (case rdk => decide)) | ktr_room); (case ku => first | ((with_reducible refine' room_un ?ruh ?ruk); (case ruh => with_reducible assumption); (case ruk => decide)) | ktr_units); (case hy => (law_clear; first | omega | ((try simp only [decide_eq_true_eq, decide_eq_false_iff_not, gj, ij, cj, jj, aj, sj, leapS] at *); first | done | omega))); (case hm => (law_clear; first | omega | ((try simp only [decide_eq_true_eq, decide_eq_false_iff_not, gj, ij, cj, jj, aj, sj, leapS] at *); first | done | omega))); (case hd => (law_clear; first | omega | ((try simp only [decide_eq_true_eq, decide_eq_false_iff_not, gj, ij, cj, jj, aj, sj, leapS] at *); first | done | omega))); (case hl => (law_clear; first | omega | ((try simp only [decide_eq_true_eq, decide_eq_false_iff_not, gj, ij, cj, jj, aj, sj, leapS] at *); first | done | omega))); intro t9 h9 tk9 F9 N9; (try dsimp only); (try k_fold))))
local macro_rules | `(tactic| walk_at "call ref") => `(tactic| (k_here; (with_reducible show wpAny _ _ (PySem.call (Value.ref 229) [Value.int (armY _) _, Value.int (armM _) _, Value.int (armD _) _, Value.none]) _ _ _); k_dflt (refine' use (c_tojd_arm_at _ _ _ _ ?hd) ?k1 ?k2 ?k3 ?k4 ?k5 ?kK ?kd ?ku ?_; (case k1 => k_asm); (case k2 => k_asm); (case k3 => k_asm); (case k4 => k_asm); (case k5 => k_asm); (case kK => first | exact rfl | assumption); (case kd => first | ((with_reducible refine' room_dp ?rdh ?rdk); (case rdh => with_reducible assumption); (case rdk => decide)) | ktr_room); (case ku => first | ((with_reducible refine' room_un ?ruh ?ruk); (case ruh => with_reducible assumption); (case ruk => decide)) | ktr_units); (case hd => (law_clear; first | omega | ((try simp only [decide_eq_true_eq, decide_eq_false_iff_not, gj, ij, cj, jj, aj, sj, leapS] at *); first | done | omega))); intro t9 h9 tk9 F9 N9; (try dsimp only); (try k_fold))))
local macro_rules | `(tactic| walk_at "call ref") => `(tactic| (k_here; (with_reducible show wpAny _ _ (PySem.call (Value.ref 229) [Value.int (sarY _) _, Value.int (sarM _) _, Value.int (sarD _) _, Value.str (Str.ofString "sarkawag") _]) _ _ _); k_dflt (refine' use (c_tojd_sar_at _ _ _ _ _ ?hd) ?k1 ?k2 ?k3 ?k4 ?k5 ?kK ?kd ?ku ?_; (case k1 => k_asm); (case k2 => k_asm); (case k3 => k_asm); (case k4 => k_asm); (case k5 => k_asm); (case kK => first | exact rfl | assumption); (case kd => first | ((with_reducible refine' room_dp ?rdh ?rdk); (case rdh => with_reducible assumption); (case rdk => decide)) | ktr_room); (case ku => first | ((with_reducible refine' room_un ?ruh ?ruk); (case ruh => with_reducible assumption); (case ruk => decide)) | ktr_units); (case hd => (law_clear; first | omega | ((try simp only [decide_eq_true_eq, decide_eq_false_iff_not, gj, ij, cj, jj, aj, sj, leapS] at *); first | done | omega))); intro t9 h9 tk9 F9 N9; (try dsimp only); (try k_fold))))
local macro_rules | `(tactic| walk_at "call ref") => `(tactic| (k_here; (with_reducible show wpAny _ _ (PySem.call (Value.ref 245) [Value.int (armY _) _, Value.int (armM _) _, Value.int (armD _) _, Value.none]) _ _ _); k_dflt (refine' use (c_tojul_arm _ _ _ _ ?hd) ?k1 ?k2 ?k3 ?k4 ?k5 ?kK ?kd ?ku ?_; (case k1 => k_asm); (case k2 => k_asm); (case k3 => k_asm); (case k4 => k_asm); (case k5 => k_asm); (case kK => first | exact rfl | assumption); (case kd => first | ((with_reducible refine' room_dp ?rdh ?rdk); (case rdh => with_reducible assumption); (case rdk => decide)) | ktr_room); (case ku => first | ((with_reducible refine' room_un ?ruh ?ruk); (case ruh => with_reducible assumption); (case ruk => decide)) | ktr_units); (case hd => (law_clear; first | omega | ((try simp only [decide_eq_true_eq, decide_eq_false_iff_not, gj, ij, cj, jj, aj, sj, leapS] at *); first | done | omega))); intro D9 t9 u9 v9 h9 tk9 F9 N9; (try dsimp only); (try k_fold))))
local macro_rules | `(tactic| walk_at "call ref") => `(tactic| (k_here; (with_reducible show wpAny _ _ (PySem.call (Value.ref 253) [Value.int (latY _) _, Value.int (latM _) _, Value.int (latD _) _, Value.none]) _ _ _); k_dflt (refine' use (c_fromjul_arm _ _ _ _ ?hd) ?k1 ?k2 ?k3 ?k4 ?k5 ?kK ?kd ?ku ?_; (case k1 => k_asm); (case k2 => k_asm); (case k3 => k_asm); (case k4 => k_asm); (case k5 => k_asm); (case kK => first | exact rfl | assumption); (case kd => first | ((with_reducible refine' room_dp ?rdh ?rdk); (case rdh => with_reducible assumption); (case rdk => decide)) | ktr_room); (case ku => first | ((with_reducible refine' room_un ?ruh ?ruk); (case ruh => with_reducible assumption); (case ruk => decide)) | ktr_units); (case hd => (law_clear; first | omega | ((try simp only [decide_eq_true_eq, decide_eq_false_iff_not, gj, ij, cj, jj, aj, sj, leapS] at *); first | done | omega))); intro D9 t9 u9 v9 h9 tk9 F9 N9; (try dsimp only); (try k_fold))))
local macro_rules | `(tactic| walk_at "call ref") => `(tactic| (k_here; (with_reducible show wpAny _ _ (PySem.call (Value.ref 261) [Value.int (armY _) _, Value.int (armM _) _, Value.int (armD _) _, Value.none]) _ _ _); k_dflt (refine' use (c_togreg_arm _ _ _ _ ?hd) ?k1 ?k2 ?k3 ?k4 ?k5 ?kK ?kd ?ku ?_; (case k1 => k_asm); (case k2 => k_asm); (case k3 => k_asm); (case k4 => k_asm); (case k5 => k_asm); (case kK => first | exact rfl | assumption); (case kd => first | ((with_reducible refine' room_dp ?rdh ?rdk); (case rdh => with_reducible assumption); (case rdk => decide)) | ktr_room); (case ku => first | ((with_reducible refine' room_un ?ruh ?ruk); (case ruh => with_reducible assumption); (case ruk => decide)) | ktr_units); (case hd => (law_clear; first | omega | ((try simp only [decide_eq_true_eq, decide_eq_false_iff_not, gj, ij, cj, jj, aj, sj, leapS] at *); first | done | omega))); intro D9 t9 u9 v9 h9 tk9 F9 N9; (try dsimp only); (try k_fold))))
local macro_rules | `(tactic| walk_at "call ref") => `(tactic| (k_here; (with_reducible show wpAny _ _ (PySem.call (Value.ref 269) [Value.int (romY _) _, Value.int (romM _) _, Value.int (romD _) _, Value.none]) _ _ _); k_dflt (refine' use (c_fromgreg_arm _ _ _ _ ?hd) ?k1 ?k2 ?k3 ?k4 ?k5 ?kK ?kd ?ku ?_; (case k1 => k_asm); (case k2 => k_asm); (case k3 => k_asm); (case k4 => k_asm); (case k5 => k_asm); (case kK => first | exact rfl | assumption); (case kd => first | ((with_reducible refine' room_dp ?rdh ?rdk); (case rdh => with_reducible assumption); (case rdk => decide)) | ktr_room); (case ku => first | ((with_reducible refine' room_un ?ruh ?ruk); (case ruh => with_reducible assumption); (case ruk => decide)) | ktr_units); (case hd => (law_clear; first | omega | ((try simp only [decide_eq_true_eq, decide_eq_false_iff_not, gj, ij, cj, jj, aj, sj, leapS] at *); first | done | omega))); intro D9 t9 u9 v9 h9 tk9 F9 N9; (try dsimp only); (try k_fold))))
local macro_rules | `(tactic| walk_at "call ref") => `(tactic| (k_here; (with_reducible show wpAny _ _ (PySem.call (Value.ref 245) [Value.int (sarY _) _, Value.int (sarM _) _, Value.int (sarD _) _, Value.str (Str.ofString "sarkawag") _]) _ _ _); k_dflt (refine' use (c_tojul_sar _ _ _ _ _ ?hd) ?k1 ?k2 ?k3 ?k4 ?k5 ?kK ?kd ?ku ?_; (case k1 => k_asm); (case k2 => k_asm); (case k3 => k_asm); (case k4 => k_asm); (case k5 => k_asm); (case kK => first | exact rfl | assumption); (case kd => first | ((with_reducible refine' room_dp ?rdh ?rdk); (case rdh => with_reducible assumption); (case rdk => decide)) | ktr_room); (case ku => first | ((with_reducible refine' room_un ?ruh ?ruk); (case ruh => with_reducible assumption); (case ruk => decide)) | ktr_units); (case hd => (law_clear; first | omega | ((try simp only [decide_eq_true_eq, decide_eq_false_iff_not, gj, ij, cj, jj, aj, sj, leapS] at *); first | done | omega))); intro D9 t9 u9 v9 h9 tk9 F9 N9; (try dsimp only); (try k_fold))))
local macro_rules | `(tactic| walk_at "call ref") => `(tactic| (k_here; (with_reducible show wpAny _ _ (PySem.call (Value.ref 253) [Value.int (latY _) _, Value.int (latM _) _, Value.int (latD _) _, Value.str (Str.ofString "sarkawag") _]) _ _ _); k_dflt (refine' use (c_fromjul_sar _ _ _ _ _ ?hd) ?k1 ?k2 ?k3 ?k4 ?k5 ?kK ?kd ?ku ?_; (case k1 => k_asm); (case k2 => k_asm); (case k3 => k_asm); (case k4 => k_asm); (case k5 => k_asm); (case kK => first | exact rfl | assumption); (case kd => first | ((with_reducible refine' room_dp ?rdh ?rdk); (case rdh => with_reducible assumption); (case rdk => decide)) | ktr_room); (case ku => first | ((with_reducible refine' room_un ?ruh ?ruk); (case ruh => with_reducible assumption); (case ruk => decide)) | ktr_units); (case hd => (law_clear; first | omega | ((try simp only [decide_eq_true_eq, decide_eq_false_iff_not, gj, ij, cj, jj, aj, sj, leapS] at *); first | done | omega))); intro D9 t9 u9 v9 h9 tk9 F9 N9; (try dsimp only); (try k_fold))))
local macro_rules | `(tactic| walk_at "call ref") => `(tactic| (k_here; (with_reducible show wpAny _ _ (PySem.call (Value.ref 261) [Value.int (sarY _) _, Value.int (sarM _) _, Value.int (sarD _) _, Value.str (Str.ofString "sarkawag") _]) _ _ _); k_dflt (refine' use (c_togreg_sar _ _ _ _ _ ?hd) ?k1 ?k2 ?k3 ?k4 ?k5 ?kK ?kd ?ku ?_; (case k1 => k_asm); (case k2 => k_asm); (case k3 => k_asm); (case k4 => k_asm); (case k5 => k_asm); (case kK => first | exact rfl | assumption); (case kd => first | ((with_reducible refine' room_dp ?rdh ?rdk); (case rdh => with_reducible assumption); (case rdk => decide)) | ktr_room); (case ku => first | ((with_reducible refine' room_un ?ruh ?ruk); (case ruh => with_reducible assumption); (case ruk => decide)) | ktr_units); (case hd => (law_clear; first | omega | ((try simp only [decide_eq_true_eq, decide_eq_false_iff_not, gj, ij, cj, jj, aj, sj, leapS] at *); first | done | omega))); intro D9 t9 u9 v9 h9 tk9 F9 N9; (try dsimp only); (try k_fold))))
local macro_rules | `(tactic| walk_at "call ref") => `(tactic| (k_here; (with_reducible show wpAny _ _ (PySem.call (Value.ref 269) [Value.int (romY _) _, Value.int (romM _) _, Value.int (romD _) _, Value.str (Str.ofString "sarkawag") _]) _ _ _); k_dflt (refine' use (c_fromgreg_sar _ _ _ _ _ ?hd) ?k1 ?k2 ?k3 ?k4 ?k5 ?kK ?kd ?ku ?_; (case k1 => k_asm); (case k2 => k_asm); (case k3 => k_asm); (case k4 => k_asm); (case k5 => k_asm); (case kK => first | exact rfl | assumption); (case kd => first | ((with_reducible refine' room_dp ?rdh ?rdk); (case rdh => with_reducible assumption); (case rdk => decide)) | ktr_room); (case ku => first | ((with_reducible refine' room_un ?ruh ?ruk); (case ruh => with_reducible assumption); (case ruk => decide)) | ktr_units); (case hd => (law_clear; first | omega | ((try simp only [decide_eq_true_eq, decide_eq_false_iff_not, gj, ij, cj, jj, aj, sj, leapS] at *); first | done | omega))); intro D9 t9 u9 v9 h9 tk9 F9 N9; (try dsimp only); (try k_fold))))
local macro_rules | `(tactic| walk_at "call ref") => `(tactic| (k_here; (with_reducible show wpAny _ _ (PySem.call (Value.ref 277) [Value.int _ _, Value.int _ _, Value.none]) _ _ _); k_dflt (refine' use (c_ml_arm _ _ _ _ ?hm) ?k1 ?k2 ?k3 ?k4 ?k5 ?kK ?kd ?ku ?_; (case k1 => k_asm); (case k2 => k_asm); (case k3 => k_asm); (case k4 => k_asm); (case k5 => k_asm); (case kK => first | exact rfl | assumption); (case kd => first | ((with_reducible refine' room_dp ?rdh ?rdk); (case rdh => with_reducible assumption); (case rdk => decide)) | ktr_room); (case ku => first | ((with_reducible refine' room_un ?ruh ?ruk); (case ruh => with_reducible assumption); (case ruk => decide)) | ktr_units); (case hm => (law_clear; first | omega | ((try simp only [decide_eq_true_eq, decide_eq_false_iff_not, gj, ij, cj, jj, aj, sj, leapS] at *); first | done | omega))); intro t9 h9 tk9 F9 N9; (try dsimp only); (try k_fold))))
local macro_rules | `(tactic| walk_at "call ref") => `(tactic| (k_here; (with_reducible show wpAny _ _ (PySem.call (Value.ref 277) [Value.int _ _, Value.int _ _, Value.str (Str.ofString "sarkawag") _]) _ _ _); k_dflt (refine' use (c_ml_sar _ _ _ _ _ ?hm) ?k1 ?k2 ?k3 ?k4 ?k5 ?kK ?kd ?ku ?_; (case k1 => k_asm); (case k2 => k_asm); (case k3 => k_asm); (case k4 => k_asm); (case k5 => k_asm); (case kK => first | exact rfl | assumption); (case kd => first | ((with_reducible refine' room_dp ?rdh ?rdk); (case rdh => with_reducible assumption); (case rdk => decide)) | ktr_room); (case ku => first | ((with_reducible refine' room_un ?ruh ?ruk); (case ruh => with_reducible assumption); (case ruk => decide)) | ktr_units); (case hm => (law_clear; first | omega | ((try simp only [decide_eq_true_eq, decide_eq_false_iff_not, gj, ij, cj, jj, aj, sj, leapS] at *); first | done | omega))); intro t9 h9 tk9 F9 N9; (try dsimp only); (try k_fold))))
local macro_rules | `(tactic| walk_at "call ref") => `(tactic| (k_here; (with_reducible show wpAny _ _ (PySem.call (Value.ref 297) [Value.int _ _]) _ _ _); k_dflt (refine' use (c_jd _ _ ?hd) ?k1 ?k2 ?k3 ?k4 ?k5 ?kK ?kd ?ku ?_; (case k1 => k_asm); (case k2 => k_asm); (case k3 => k_asm); (case k4 => k_asm); (case k5 => k_asm); (case kK => first | exact rfl | assumption); (case kd => first | ((with_reducible refine' room_dp ?rdh ?rdk); (case rdh => with_reducible assumption); (case rdk => decide)) | ktr_room); (case ku => first | ((with_reducible refine' room_un ?ruh ?ruk); (case ruh => with_reducible assumption); (case ruk => decide)) | ktr_units); (case hd => (law_clear; first | omega | ((try simp only [decide_eq_true_eq, decide_eq_false_iff_not, gj, ij, cj, jj, aj, sj, leapS] at *); first | done | omega))); intro t9 h9 tk9 F9 N9; (try dsimp only); (try k_fold))))
local macro_rules | `(tactic| walk_at "call ref") => `(tactic| (k_here; (with_reducible show wpAny _ _ (PySem.call (Value.ref 318) [Value.int _ _, Value.int 1948440 _, Value.int 1 _, Value.ref 280, Value.int 0 _]) _ _ _); k_dflt (refine' use (c_date_isl _ _ _ _ _ ?hd) ?k1 ?k2 ?k3 ?k4 ?k5 ?kK ?kd ?ku ?_; (case k1 => k_asm); (case k2 => k_asm); (case k3 => k_asm); (case k4 => k_asm); (case k5 => k_asm); (case kK => first | exact rfl | assumption); (case kd => first | ((with_reducible refine' room_dp ?rdh ?rdk); (case rdh => with_reducible assumption); (case rdk => decide)) | ktr_room); (case ku => first | ((with_reducible refine' room_un ?ruh ?ruk); (case ruh => with_reducible assumption); (case ruk => decide)) | ktr_units); (case hd => (law_clear; first | omega | ((try simp only [decide_eq_true_eq, decide_eq_false_iff_not, gj, ij, cj, jj, aj, sj, leapS] at *); first | done | omega))); intro D9 T9 L9 t9 u9 v9 vs9 n9 h9 tk9 hi9 F9 N9; (try dsimp only); (try k_fold))))
local macro_rules | `(tactic| walk_at "call ref") => `(tactic| (k_here; (with_reducible show wpAny _ _ (PySem.call (Value.ref 318) [Value.int _ _, Value.int 1825030 _, Value.int 1 _, Value.ref 281, Value.int 1 _]) _ _ _); k_dflt (refine' use (c_date_cop _ _ _ _ _ ?hd) ?k1 ?k2 ?k3 ?k4 ?k5 ?kK ?kd ?ku ?_; (case k1 => k_asm); (case k2 => k_asm); (case k3 => k_asm); (case k4 => k_asm); (case k5 => k_asm); (case kK => first | exact rfl | assumption); (case kd => first | ((with_reducible refine' room_dp ?rdh ?rdk); (case rdh => with_reducible assumption); (case rdk => decide)) | ktr_room); (case ku => first | ((with_reducible refine' room_un ?ruh ?ruk); (case ruh => with_reducible assumption); (case ruk => decide)) | ktr_units); (case hd => (law_clear; first | omega | ((try simp only [decide_eq_true_eq, decide_eq_false_iff_not, gj, ij, cj, jj, aj, sj, leapS] at *); first | done | omega))); intro D9 T9 L9 t9 u9 v9 vs9 n9 h9 tk9 hi9 F9 N9; (try dsimp only); (try k_fold))))
local macro_rules | `(tactic| walk_at "call ref") => `(tactic| (k_here; (with_reducible show wpAny _ _ (PySem.call (Value.ref 318) [Value.int _ _, Value.int 1721424 _, Value.int 1 _, Value.ref 282, Value.int 2 _]) _ _ _); k_dflt (refine' use (c_date_lat _ _ _ _ _ ?hd) ?k1 ?k2 ?k3 ?k4 ?k5 ?kK ?kd ?ku ?_; (case k1 => k_asm); (case k2 => k_asm); (case k3 => k_asm); (case k4 => k_asm); (case k5 => k_asm); (case kK => first | exact rfl | assumption); (case kd => first | ((with_reducible refine' room_dp ?rdh ?rdk); (case rdh => with_reducible assumption); (case rdk => decide)) | ktr_room); (case ku => first | ((with_reducible refine' room_un ?ruh ?ruk); (case ruh => with_reducible assumption); (case ruk => decide)) | ktr_units); (case hd => (law_clear; first | omega | ((try simp only [decide_eq_true_eq, decide_eq_false_iff_not, gj, ij, cj, jj, aj, sj, leapS] at *); first | done | omega))); intro D9 T9 L9 t9 u9 v9 vs9 n9 h9 tk9 hi9 F9 N9; (try dsimp only); (try k_fold))))
local macro_rules | `(tactic| walk_at "call ref") => `(tactic| (k_here; (with_reducible show wpAny _ _ (PySem.call (Value.ref 318) [Value.int _ _, Value.int 1922868 _, Value.int 1 _, Value.ref 283, Value.int 1 _]) _ _ _); k_dflt (refine' use (c_date_arm _ _ _ _ _ ?hd) ?k1 ?k2 ?k3 ?k4 ?k5 ?kK ?kd ?ku ?_; (case k1 => k_asm); (case k2 => k_asm); (case k3 => k_asm); (case k4 => k_asm); (case k5 => k_asm); (case kK => first | exact rfl | assumption); (case kd => first | ((with_reducible refine' room_dp ?rdh ?rdk); (case rdh => with_reducible assumption); (case rdk => decide)) | ktr_room); (case ku => first | ((with_reducible refine' room_un ?ruh ?ruk); (case ruh => with_reducible assumption); (case ruk => decide)) | ktr_units); (case hd => (law_clear; first | omega | ((try simp only [decide_eq_true_eq, decide_eq_false_iff_not, gj, ij, cj, jj, aj, sj, leapS] at *); first | done | omega))); intro D9 T9 L9 t9 u9 v9 vs9 n9 h9 tk9 hi9 F9 N9; (try dsimp only); (try k_fold))))
local macro_rules | `(tactic| walk_at "call ref") => `(tactic| (k_here; (with_reducible show wpAny _ _ (PySem.call (Value.ref 318) [Value.int _ _, Value.int 2117212 _, Value.int 533 _, Value.ref 282, Value.int 1 _]) _ _ _); k_dflt (refine' use (c_date_sar _ _ _ _ _ ?hd) ?k1 ?k2 ?k3 ?k4 ?k5 ?kK ?kd ?ku ?_; (case k1 => k_asm); (case k2 => k_asm); (case k3 => k_asm); (case k4 => k_asm); (case k5 => k_asm); (case kK => first | exact rfl | assumption); (case kd => first | ((with_reducible refine' room_dp ?rdh ?rdk); (case rdh => with_reducible assumption); (case rdk => decide)) | ktr_room); (case ku => first | ((with_reducible refine' room_un ?ruh ?ruk); (case ruh => with_reducible assumption); (case ruk => decide)) | ktr_units); (case hd => (law_clear; first | omega | ((try simp only [decide_eq_true_eq, decide_eq_false_iff_not, gj, ij, cj, jj, aj, sj, leapS] at *); first | done | omega))); intro D9 T9 L9 t9 u9 v9 vs9 n9 h9 tk9 hi9 F9 N9; (try dsimp only); (try k_fold))))
local macro_rules | `(tactic| walk_at "call ref") => `(tactic| (k_here; (with_reducible show wpAny _ _ (PySem.call (Value.ref 344) [Value.ref _, Value.ref _]) _ _ _); k_dflt (refine' use (c_next _ _ _ _ _ _ _ _ _ _ _ _ _ _ ?hi ?hl ?hm ?hx) ?k1 ?k2 ?k3 ?k4 ?k5 ?kK ?kd ?ku ?_; (case k1 => k_asm); (case k2 => k_asm); (case k3 => k_asm); (case k4 => k_asm); (case k5 => k_asm); (case kK => first | exact rfl | assumption); (case kd => first | ((with_reducible refine' room_dp ?rdh ?rdk); (case rdh => with_reducible assumption); (case rdk => decide)) | ktr_room); (case ku => first | ((with_reducible refine' room_un ?ruh ?ruk); (case ruh => with_reducible assumption); (case ruk => decide)) | ktr_units); (case hi => assumption); (case hx => assumption); (case hl => first | exact szs_len _ _ | omega); (case hm => (law_clear; first | omega | ((try simp only [decide_eq_true_eq, decide_eq_false_iff_not, gj, ij, cj, jj, aj, sj, leapS] at *); first | done | omega))); rotate_right; refine' ⟨?mT, ?_⟩; (case mT => first | k_mem | ((repeat (refine' List.Mem.tail _ ?_)); assumption)); refine' ⟨?mL, ?_⟩; (case mL => k_mem); intro D9 t9 u9 v9 h9 tk9 F9 N9; (try dsimp only); (try k_fold))))
local macro_rules | `(tactic| walk_at "eval Name") => `(tactic| (k_here; k_dflt (first | (name_kind "local"; refine' nameX_L ?F ?v ?_ ?a ?b ?c; (case F => k_asm); (case a => kernel_rfl); (case b => kernel_rfl); (case c => kernel_rfl); (case v => first | (refine' look_of ?gg ?ge; (case gg => (repeat (first | (with_reducible exact guess_hit_l) | (with_reducible apply guess_miss_l) | (with_reducible exact guess_hit_if) | ((with_reducible show Guess (@ite _ _ _ _ _) _); (with_reducible apply guess_miss_if))))); (case ge => kernel_rfl)) | exact rfl)) | (name_kind "globalImplicit"; refine' nameX_K ?F ?X ?T ?e ?_ ?a ?b ?c; (case F => k_asm); (case X => k_asm); (case T => k_asm); (case e => with_reducible (first | exact gn_law_date _ | exact gn_law_next _ | exact gn_to_jd_armenian _ | exact gn_law_jd _ | exact gn_month_length_armenian _ | exact gn_from_gregorian_armenian _ | exact gn_from_julian _ | exact gn_from_jd_armenian _ | exact gn_leap_armenian _ | exact gn_to_gregorian_armenian _ | exact gn_to_julian _)); (case a => kernel_rfl); (case b => kernel_rfl); (case c => kernel_rfl)) | (name_kind "globalImplicit"; refine' nameX_B ?F ?X ?T ?e ?v ?n ?_ ?a ?b ?c; (case F => k_asm); (case X => k_asm); (case T => k_asm); (case e => with_reducible (first | exact gb_ValueError _)); (case v => with_reducible (first | exact bb_ValueError)); (case a => kernel_rfl); (case b => kernel_rfl); (case n => decide); (case c => kernel_rfl)))))
local macro_rules | `(tactic| walk_at "eval Name") => `(tactic| (k_here; k_dflt (first | (name_kind "local"; refine' nameX_L ?F ?v ?_ ?a ?b ?c; (case F => k_asm); (case a => kernel_rfl); (case b => kernel_rfl); (case c => kernel_rfl); (case v => first | (refine' look_of ?gg ?ge; (case gg => (repeat (first | (with_reducible exact guess_hit_l) | (with_reducible apply guess_miss_l) | (with_reducible exact guess_hit_if) | ((with_reducible show Guess (@ite _ _ _ _ _) _); (with_reducible apply guess_miss_if))))); (case ge => kernel_rfl)) | exact rfl)) | (name_kind "globalImplicit"; refine' nameX_K ?F ?X ?T ?e ?_ ?a ?b ?c; (case F => k_asm); (case X => k_asm); (case T => k_asm); (case e => with_reducible (first | exact gn_EPOCH_armenian _ | exact gn_trunc _ | exact gn_EPOCH_SARKAWAG _)); (case a => kernel_rfl); (case b => kernel_rfl); (case c => kernel_rfl)) | (name_kind "globalImplicit"; refine' nameX_B ?F ?X ?T ?e ?v ?n ?_ ?a ?b ?c; (case F => k_asm); (case X => k_asm); (case T => k_asm); (case e => with_reducible (first | exact gb_ValueError _)); (case v => with_reducible (first | exact bb_ValueError)); (case a => kernel_rfl); (case b => kernel_rfl); (case n => decide); (case c => kernel_rfl)))))
local macro_rules | `(tactic| walk_at "call ref") => `(tactic| (k_here; (with_reducible show wpAny _ _ (PySem.call (Value.ref 237) _) _ _ _); refine wpAny_call ?_; k_dflt (refine' code_defS ?k1 ?k2 ?k3 ?k4 ?k5 ?XB ?TB ?D ?T0 ?kA ?k6 ?k7 ?k8 ?k9 ?kB ?_ ?cK ?c2 ?c3 ?c4 ?c5; (case kA => exact rfl); (case k2 => k_asm); (case k1 => k_asm); (case XB => assumption); (case TB => assumption); (case D => assumption); (case T0 => first | assumption | exact KtsTurn.refl); (case k3 => k_asm); (case k4 => k_asm); (case k5 => k_asm); (case k6 => k_is); (case k7 => k_is); (case k8 => ktr_room); (case k9 => first | exact binds_K (by k_in) rfl (by k_is) rfl rfl rfl | exact BindsTo.of_eq rfl); (case kB => exact locs rfl); (case cK => exact rfl); (case c2 => exact rfl); (case c3 => exact rfl); (case c4 => exact rfl); (case c5 => decide); k_whole; intro g' L' h' FG' F' N' B' X' T' D'; (try dsimp only); (try k_lift B'); (try k_fold))))
set_option maxRecDepth 100000 in
set_option maxHeartbeats 8000000 in
theorem c_lo_arm (day : Int) (R La : Addr) (t z1 z2 z3 u1 u2 u3 v1 v2 v3 : Tok) (hd : -9000000000 < day ∧ day < 1922502) :
    Claim0 365 [.int day t, .none, .int 1922502 z1, .int 1922868 z2, .int 1 z3, .ref 283, .ref R, .ref La] 9 (WithT R (tup3 (romY day) u1 (romM day) u2 (romD day) u3) (WithT La (tup3 (latY day) v1 (latM day) v2 (latD day) v3) (RetV fun _ => .bool true))) := by
  refine gate_out ?_
  simp (disch := (k_dflt (
  intro prog w p loose mean mg mb dp un gd cn cs a ccd A₀ base h₀ L mm news s Q E B F X N T XB TB hk hdp hun hret
  obtain ⟨hR, hLa, hret⟩ := hret
  (refine wpAny_call ?_; k_dflt (refine' code_defS0 ?k1 ?k2 ?k3 ?k4 ?k5 ?kA ?k6 ?k7 ?k8 ?k9 ?kB ?_ ?cK ?c2 ?c3 ?c4 ?c5; (case kA => exact rfl); (case k2 => k_asm); (case k1 => k_asm); (case k3 => k_asm); (case k4 => k_asm); (case k5 => k_asm); (case k6 => k_is); (case k7 => k_is); (case k8 => ktr_room); (case k9 => exact BindsTo.of_eq rfl); (case kB => exact locs rfl); (case cK => assumption); (case c2 => exact rfl); (case c3 => exact rfl); (case c4 => exact rfl); (case c5 => decide); k_whole; intro g' L' h' FG' F' N' B' X' T' D'; (try dsimp only); (try k_lift B'); (try k_fold)); (try ((rename Fr _ _ _ _ => F8); (first | (have F9 := Fr_as F8 (m' := fun y9 => List.lookup y9 [(Str.ofString "latin", (.ref La : Value)), (Str.ofString "roman", (.ref R : Value)), (Str.ofString "cycle", (.ref 283 : Value)), (Str.ofString "start", (.int 1 z3 : Value)), (Str.ofString "first", (.int 1922868 z2 : Value)), (Str.ofString "edge", (.int 1922502 z1 : Value)), (Str.ofString "method", (.none : Value)), (Str.ofString "day", (.int day t : Value))]) rfl) | (have F9 := Fr_as F8 (m' := fun y9 => List.lookup y9 [(Str.ofString "day", (.int day t : Value)), (Str.ofString "method", (.none : Value)), (Str.ofString "edge", (.int 1922502 z1 : Value)), (Str.ofString "first", (.int 1922868 z2 : Value)), (Str.ofString "start", (.int 1 z3 : Value)), (Str.ofString "cycle", (.ref 283 : Value)), (Str.ofString "roman", (.ref R : Value)), (Str.ofString "latin", (.ref La : Value))]) rfl)); clear F8));  k_steps; all_goals (first | (((first | (with_reducible refine' hret 0 ?_ ?_ ?cbF ?cbN) | (with_reducible refine' hret _ ?_ ?_ ?cbF ?cbN))); (case cbF => k_asm); (case cbN => first | (with_reducible assumption) | (refine' cb_drop ?cbM ?cbS; (case cbM => assumption); (case cbS => (first | (intro p9 hp9; (repeat (with_reducible refine List.mem_cons_of_mem _ ?_)); exact hp9) | kcj_all))))) | cb_end hret))))) only [↓gate_true]
end
section
local macro_rules | `(tactic| walk_at "pad") => `(tactic| fail)
local macro_rules | `(tactic| walk_at "call ref") => `(tactic| (k_here; (with_reducible show wpAny _ _ (PySem.call (Value.ref 221) [Value.int _ _]) _ _ _); k_dflt (refine' use (c_leap_arm _ _) ?k1 ?k2 ?k3 ?k4 ?k5 ?kK ?kd ?ku ?_; (case k1 => k_asm); (case k2 => k_asm); (case k3 => k_asm); (case k4 => k_asm); (case k5 => k_asm); (case kK => first | exact rfl | assumption); (case kd => first | ((with_reducible refine' room_dp ?rdh ?rdk); (case rdh => with_reducible assumption); (case rdk => decide)) | ktr_room); (case ku => first | ((with_reducible refine' room_un ?ruh ?ruk); (case ruh => with_reducible assumption); (case ruk => decide)) | ktr_units); intro t9 h9 tk9 F9 N9; (try dsimp only); (try k_fold))))
local macro_rules | `(tactic| walk_at "call ref") => `(tactic| (k_here; (with_reducible show wpAny _ _ (PySem.call (Value.ref 229) [Value.int _ _, Value.int _ _, Value.int _ _, Value.none]) _ _ _); k_dflt (refine' use (c_tojd_n _ _ _ _ _ _ ?hy ?hm ?hd ?hl) ?k1 ?k2 ?k3 ?k4 ?k5 ?kK ?kd ?ku ?_; (case k1 => k_asm); (case k2 => k_asm); (case k3 => k_asm); (case k4 => k_asm); (case k5 => k_asm); (case kK => first | exact rfl | assumption); (case kd => first | ((with_reducible refine' room_dp ?rdh ?rdk); (case rdh => with_reducible assumption); (case rdk => decide)) | ktr_room); (case ku => first | ((with_reducible refine' room_un ?ruh ?ruk); (case ruh => with_reducible assumption); (case ruk => decide)) | ktr_units); (case hy => (law_clear; first | omega | ((try simp only [decide_eq_true_eq, decide_eq_false_iff_not, gj, ij, cj, jj, aj, sj, leapS] at *); first | done | omega))); (case hm => (law_clear; first | omega | ((try simp only [decide_eq_true_eq, decide_eq_false_iff_not, gj, ij, cj, jj, aj, sj, leapS] at *); first | done | omega))); (case hd => (law_clear; first | omega | ((try simp only [decide_eq_true_eq, decide_eq_false_iff_not, gj, ij, cj, jj, aj, sj, leapS] at *); first | done | omega))); (case hl => (law_clear; first | omega | ((try simp only [decide_eq_true_eq, decide_eq_false_iff_not, gj, ij, cj, jj, aj, sj, leapS] at *); first | done | omega))); intro t9 h9 tk9 F9 N9; (try dsimp only); (try k_fold))))
local macro_rules | `(tactic| walk_at "call ref") => `(tactic| (k_here; (with_reducible show wpAny _ _ (PySem.call (Value.ref 229) [Value.int _ _, Value.int _ _, Value.int _ _, Value.str (Str.ofString "sarkawag") _]) _ _ _); k_dflt (refine' use (c_tojd_s _ _ _ _ _ _ _ ?hy ?hm ?hd ?hl) ?k1 ?k2 ?k3 ?k4 ?k5 ?kK ?kd ?ku ?_; (case k1 => k_asm); (case k2 => k_asm); (case k3 => k_asm); (case k4 => k_asm); (case k5 => k_asm); (case kK => first | exact rfl | assumption); (case kd => first | ((with_reducible refine' room_dp ?rdh ?rdk); (case rdh => with_reducible assumption); (case rdk => decide)) | ktr_room); (case ku => first | ((with_reducible refine' room_un ?ruh ?ruk); (case ruh => with_reducible assumption); (case ruk => decide)) | ktr_units); (case hy => (law_clear; first | omega | ((try simp only [decide_eq_true_eq, decide_eq_false_iff_not, gj, ij, cj, jj, aj, sj, leapS] at *); first | done | omega))); (case hm => (law_clear; first | omega | ((try simp only [decide_eq_true_eq, decide_eq_false_iff_not, gj, ij, cj, jj, aj, sj, leapS] at *); first | done | omega))); (case hd => (law_clear; first | omega | ((try simp only [decide_eq_true_eq, decide_eq_false_iff_not, gj, ij, cj, jj, aj, sj, leapS] at *); first | done | omega))); (case hl => (law_clear; first | omega | ((try simp only [decide_eq_true_eq, decide_eq_false_iff_not, gj, ij, cj, jj, aj, sj, leapS] at *); first | done | omega))); intro t9 h9 tk9 F9 N9; (try dsimp only); (try k_fold))))
local macro_rules | `(tactic| walk_at "call ref") => `(tactic| (k_here; (with_reducible show wpAny _ _ (PySem.call (Value.ref 229) [Value.int (armY _) _, Value.int (armM _) _, Value.int (armD _) _, Value.none]) _ _ _); k_dflt (refine' use (c_tojd_arm_at _ _ _ _ ?hd) ?k1 ?k2 ?k3 ?k4 ?k5 ?kK ?kd ?ku ?_; (case k1 => k_asm); (case k2 => k_asm); (case k3 => k_asm); (case k4 => k_asm); (case k5 => k_asm); (case kK => first | exact rfl | assumption); (case kd => first | ((with_reducible refine' room_dp ?rdh ?rdk); (case rdh => with_reducible assumption); (case rdk => decide)) | ktr_room); (case ku => first | ((with_reducible refine' room_un ?ruh ?ruk); (case ruh => with_reducible assumption); (case ruk => decide)) | ktr_units); (case hd => (law_clear; first | omega | ((try simp only [decide_eq_true_eq, decide_eq_false_iff_not, gj, ij, cj, jj, aj, sj, leapS] at *); first | done | omega))); intro t9 h9 tk9 F9 N9; (try dsimp only); (try k_fold))))
local macro_rules | `(tactic| walk_at "call ref") => `(tactic| (k_here; (with_reducible show wpAny _ _ (PySem.call (Value.ref 229) [Value.int (sarY _) _, Value.int (sarM _) _, Value.int (sarD _) _, Value.str (Str.ofString "sarkawag") _]) _ _ _); k_dflt (refine' use (c_tojd_sar_at _ _ _ _ _ ?hd) ?k1 ?k2 ?k3 ?k4 ?k5 ?kK ?kd ?ku ?_; (case k1 => k_asm); (case k2 => k_asm); (case k3 => k_asm); (case k4 => k_asm); (case k5 => k_asm); (case kK => first | exact rfl | assumption); (case kd => first | ((with_reducible refine' room_dp ?rdh ?rdk); (case rdh => with_reducible assumption); (case rdk => decide)) | ktr_room); (case ku => first | ((with_reducible refine' room_un ?ruh ?ruk); (case ruh => with_reducible assumption); (case ruk => decide)) | ktr_units); (case hd => (law_clear; first | omega | ((try simp only [decide_eq_true_eq, decide_eq_false_iff_not, gj, ij, cj, jj, aj, sj, leapS] at *); first | done | omega))); intro t9 h9 tk9 F9 N9; (try dsimp only); (try k_fold))))
local macro_rules | `(tactic| walk_at "call ref") => `(tactic| (k_here; (with_reducible show wpAny _ _ (PySem.call (Value.ref 237) [Value.float (H (2 * _ - 1)) _, Value.none]) _ _ _); k_dflt (refine' use (c_fromjd_arm _ _ ?hd) ?k1 ?k2 ?k3 ?k4 ?k5 ?kK ?kd ?ku ?_; (case k1 => k_asm); (case k2 => k_asm); (case k3 => k_asm); (case k4 => k_asm); (case k5 => k_asm); (case kK => first | exact rfl | assumption); (case kd => first | ((with_reducible refine' room_dp ?rdh ?rdk); (case rdh => with_reducible assumption); (case rdk => decide)) | ktr_room); (case ku => first | ((with_reducible refine' room_un ?ruh ?ruk); (case ruh => with_reducible assumption); (case ruk => decide)) | ktr_units); (case hd => (law_clear; first | omega | ((try simp only [decide_eq_true_eq, decide_eq_false_iff_not, gj, ij, cj, jj, aj, sj, leapS] at *); first | done | omega))); intro D9 t9 u9 v9 h9 tk9 F9 N9; (try dsimp only); (try k_fold))))
local macro_rules | `(tactic| walk_at "call ref") => `(tactic| (k_here; (with_reducible show wpAny _ _ (PySem.call (Value.ref 237) [Value.float (H (2 * _ - 1)) _, Value.str (Str.ofString "sarkawag") _]) _ _ _); k_dflt (refine' use (c_fromjd_sar _ _ _ ?hd) ?k1 ?k2 ?k3 ?k4 ?k5 ?kK ?kd ?ku ?_; (case k1 => k_asm); (case k2 => k_asm); (case k3 => k_asm); (case k4 => k_asm); (case k5 => k_asm); (case kK => first | exact rfl | assumption); (case kd => first | ((with_reducible refine' room_dp ?rdh ?rdk); (case rdh => with_reducible assumption); (case rdk => decide)) | ktr_room); (case ku => first | ((with_reducible refine' room_un ?ruh ?ruk); (case ruh => with_reducible assumption); (case ruk => decide)) | ktr_units); (case hd => (law_clear; first | omega | ((try simp only [decide_eq_true_eq, decide_eq_false_iff_not, gj, ij, cj, jj, aj, sj, leapS] at *); first | done | omega))); intro D9 t9 u9 v9 h9 tk9 F9 N9; (try dsimp only); (try k_fold))))
local macro_rules | `(tactic| walk_at "call ref") => `(tactic| (k_here; (with_reducible show wpAny _ _ (PySem.call (Value.ref 245) [Value.int (armY _) _, Value.int (armM _) _, Value.int (armD _) _, Value.none]) _ _ _); k_dflt (refine' use (c_tojul_arm _ _ _ _ ?hd) ?k1 ?k2 ?k3 ?k4 ?k5 ?kK ?kd ?ku ?_; (case k1 => k_asm); (case k2 => k_asm); (case k3 => k_asm); (case k4 => k_asm); (case k5 => k_asm); (case kK => first | exact rfl | assumption); (case kd => first | ((with_reducible refine' room_dp ?rdh ?rdk); (case rdh => with_reducible assumption); (case rdk => decide)) | ktr_room); (case ku => first | ((with_reducible refine' room_un ?ruh ?ruk); (case ruh => with_reducible assumption); (case ruk => decide)) | ktr_units); (case hd => (law_clear; first | omega | ((try simp only [decide_eq_true_eq, decide_eq_false_iff_not, gj, ij, cj, jj, aj, sj, leapS] at *); first | done | omega))); intro D9 t9 u9 v9 h9 tk9 F9 N9; (try dsimp only); (try k_fold))))
local macro_rules | `(tactic| walk_at "call ref") => `(tactic| (k_here; (with_reducible show wpAny _ _ (PySem.call (Value.ref 253) [Value.int (latY _) _, Value.int (latM _) _, Value.int (latD _) _, Value.none]) _ _ _); k_dflt (refine' use (c_fromjul_arm _ _ _ _ ?hd) ?k1 ?k2 ?k3 ?k4 ?k5 ?kK ?kd ?ku ?_; (case k1 => k_asm); (case k2 => k_asm); (case k3 => k_asm); (case k4 => k_asm); (case k5 => k_asm); (case kK => first | exact rfl | assumption); (case kd => first | ((with_reducible refine' room_dp ?rdh ?rdk); (case rdh => with_reducible assumption); (case rdk => decide)) | ktr_room); (case ku => first | ((with_reducible refine' room_un ?ruh ?ruk); (case ruh => with_reducible assumption); (case ruk => decide)) | ktr_units); (case hd => (law_clear; first | omega | ((try simp only [decide_eq_true_eq, decide_eq_false_iff_not, gj, ij, cj, jj, aj, sj, leapS] at *); first | done | omega))); intro D9 t9 u9 v9 h9 tk9 F9 N9; (try dsimp only); (try k_fold))))
local macro_rules | `(tactic| walk_at "call ref") => `(tactic| (k_here; (with_reducible show wpAny _ _ (PySem.call (Value.ref 261) [Value.int (armY _) _, Value.int (armM _) _, Value.int (armD _) _, Value.none]) _ _ _); k_dflt (refine' use (c_togreg_arm _ _ _ _ ?hd) ?k1 ?k2 ?k3 ?k4 ?k5 ?kK ?kd ?ku ?_; (case k1 => k_asm); (case k2 => k_asm); (case k3 => k_asm); (case k4 => k_asm); (case k5 => k_asm); (case kK => first | exact rfl | assumption); (case kd => first | ((with_reducible refine' room_dp ?rdh ?rdk); (case rdh => with_reducible assumption); (case rdk => decide)) | ktr_room); (case ku => first | ((with_reducible refine' room_un ?ruh ?ruk); (case ruh => with_reducible assumption); (case ruk => decide)) | ktr_units); (case hd => (law_clear; first | omega | ((try simp only [decide_eq_true_eq, decide_eq_false_iff_not, gj, ij, cj, jj, aj, sj, leapS] at *); first | done | omega))); intro D9 t9 u9 v9 h9 tk9 F9 N9; (try dsimp only); (try k_fold))))
local macro_rules | `(tactic| walk_at "call ref") => `(tactic| (k_here; (with_reducible show wpAny _ _ (PySem.call (Value.ref 269) [Value.int (romY _) _, Value.int (romM _) _, Value.int (romD _) _, Value.none]) _ _ _); k_dflt (refine' use (c_fromgreg_arm _ _ _ _ ?hd) ?k1 ?k2 ?k3 ?k4 ?k5 ?kK ?kd ?ku ?_; (case k1 => k_asm); (case k2 => k_asm); (case k3 => k_asm); (case k4 => k_asm); (case k5 => k_asm); (case kK => first | exact rfl | assumption); (case kd => first | ((with_reducible refine' room_dp ?rdh ?rdk); (case rdh => with_reducible assumption); (case rdk => decide)) | ktr_room); (case ku => first | ((with_reducible refine' room_un ?ruh ?ruk); (case ruh => with_reducible assumption); (case ruk => decide)) | ktr_units); (case hd => (law_clear; first | omega | ((try simp only [decide_eq_true_eq, decide_eq_false_iff_not, gj, ij, cj, jj, aj, sj, leapS] at *); first | done | omega))); intro D9 t9 u9 v9 h9 tk9 F9 N9; (try dsimp only); (try k_fold))))
local macro_rules | `(tactic| walk_at "call ref") => `(tactic| (k_here; (with_reducible show wpAny _ _ (PySem.call (Value.ref 245) [Value.int (sarY _) _, Value.int (sarM _) _, Value.int (sarD _) _, Value.str (Str.ofString "sarkawag") _]) _ _ _); k_dflt (refine' use (c_tojul_sar _ _ _ _ _ ?hd) ?k1 ?k2 ?k3 ?k4 ?k5 ?kK ?kd ?ku ?_; (case k1 => k_asm); (case k2 => k_asm); (case k3 => k_asm); (case k4 => k_asm); (case k5 => k_asm); (case kK => first | exact rfl | assumption); (case kd => first | ((with_reducible refine' room_dp ?rdh ?rdk); (case rdh => with_reducible assumption); (case rdk => decide)) | ktr_room); (case ku => first | ((with_reducible refine' room_un ?ruh ?ruk); (case ruh => with_reducible assumption); (case ruk => decide)) | ktr_units); (case hd => (law_clear; first | omega | ((try simp only [decide_eq_true_eq, decide_eq_false_iff_not, gj, ij, cj, jj, aj, sj, leapS] at *); first | done | omega))); intro D9 t9 u9 v9 h9 tk9 F9 N9; (try dsimp only); (try k_fold))))
local macro_rules | `(tactic| walk_at "call ref") => `(tactic| (k_here; (with_reducible show wpAny _ _ (PySem.call (Value.ref 253) [Value.int (latY _) _, Value.int (latM _) _, Value.int (latD _) _, Value.str (Str.ofString "sarkawag") _]) _ _ _); k_dflt (refine' use (c_fromjul_sar _ _ _ _ _ ?hd) ?k1 ?k2 ?k3 ?k4 ?k5 ?kK ?kd ?ku ?_; (case k1 => k_asm); (case k2 => k_asm); (case k3 => k_asm); (case k4 => k_asm); (case k5 => k_asm); (case kK => first | exact rfl | assumption); (case kd => first | ((with_reducible refine' room_dp ?rdh ?rdk); (case rdh => with_reducible assumption); (case rdk => decide)) | ktr_room); (case ku => first | ((with_reducible refine' room_un ?ruh ?ruk); (case ruh => with_reducible assumption); (case ruk => decide)) | ktr_units); (case hd => (law_clear; first | omega | ((try simp only [decide_eq_true_eq, decide_eq_false_iff_not, gj, ij, cj, jj, aj, sj, leapS] at *); first | done | omega))); intro D9 t9 u9 v9 h9 tk9 F9 N9; (try dsimp only); (try k_fold))))
local macro_rules | `(tactic| walk_at "call ref") => `(tactic| (k_here; (with_reducible show wpAny _ _ (PySem.call (Value.ref 261) [Value.int (sarY _) _, Value.int (sarM _) _, Value.int (sarD _) _, Value.str (Str.ofString "sarkawag") _]) _ _ _); k_dflt (refine' use (c_togreg_sar _ _ _ _ _ ?hd) ?k1 ?k2 ?k3 ?k4 ?k5 ?kK ?kd ?ku ?_; (case k1 => k_asm); (case k2 => k_asm); (case k3 => k_asm); (case k4 => k_asm); (case k5 => k_asm); (case kK => first | exact rfl | assumption); (case kd => first | ((with_reducible refine' room_dp ?rdh ?rdk); (case rdh => with_reducible assumption); (case rdk => decide)) | ktr_room); (case ku => first | ((with_reducible refine' room_un ?ruh ?ruk); (case ruh => with_reducible assumption); (case ruk => decide)) | ktr_units); (case hd => (law_clear; first | omega | ((try simp only [decide_eq_true_eq, decide_eq_false_iff_not, gj, ij, cj, jj, aj, sj, leapS] at *); first | done | omega))); intro D9 t9 u9 v9 h9 tk9 F9 N9; (try dsimp only); (try k_fold))))
local macro_rules | `(tactic| walk_at "call ref") => `(tactic| (k_here; (with_reducible show wpAny _ _ (PySem.call (Value.ref 269) [Value.int (romY _) _, Value.int (romM _) _, Value.int (romD _) _, Value.str (Str.ofString "sarkawag") _]) _ _ _); k_dflt (refine' use (c_fromgreg_sar _ _ _ _ _ ?hd) ?k1 ?k2 ?k3 ?k4 ?k5 ?kK ?kd ?ku ?_; (case k1 => k_asm); (case k2 => k_asm); (case k3 => k_asm); (case k4 => k_asm); (case k5 => k_asm); (case kK => first | exact rfl | assumption); (case kd => first | ((with_reducible refine' room_dp ?rdh ?rdk); (case rdh => with_reducible assumption); (case rdk => decide)) | ktr_room); (case ku => first | ((with_reducible refine' room_un ?ruh ?ruk); (case ruh => with_reducible assumption); (case ruk => decide)) | ktr_units); (case hd => (law_clear; first | omega | ((try simp only [decide_eq_true_eq, decide_eq_false_iff_not, gj, ij, cj, jj, aj, sj, leapS] at *); first | done | omega))); intro D9 t9 u9 v9 h9 tk9 F9 N9; (try dsimp only); (try k_fold))))
local macro_rules | `(tactic| walk_at "call ref") => `(tactic| (k_here; (with_reducible show wpAny _ _ (PySem.call (Value.ref 277) [Value.int _ _, Value.int _ _, Value.none]) _ _ _); k_dflt (refine' use (c_ml_arm _ _ _ _ ?hm) ?k1 ?k2 ?k3 ?k4 ?k5 ?kK ?kd ?ku ?_; (case k1 => k_asm); (case k2 => k_asm); (case k3 => k_asm); (case k4 => k_asm); (case k5 => k_asm); (case kK => first | exact rfl | assumption); (case kd => first | ((with_reducible refine' room_dp ?rdh ?rdk); (case rdh => with_reducible assumption); (case rdk => decide)) | ktr_room); (case ku => first | ((with_reducible refine' room_un ?ruh ?ruk); (case ruh => with_reducible assumption); (case ruk => decide)) | ktr_units); (case hm => (law_clear; first | omega | ((try simp only [decide_eq_true_eq, decide_eq_false_iff_not, gj, ij, cj, jj, aj, sj, leapS] at *); first | done | omega))); intro t9 h9 tk9 F9 N9; (try dsimp only); (try k_fold))))
local macro_rules | `(tactic| walk_at "call ref") => `(tactic| (k_here; (with_reducible show wpAny _ _ (PySem.call (Value.ref 277) [Value.int _ _, Value.int _ _, Value.str (Str.ofString "sarkawag") _]) _ _ _); k_dflt (refine' use (c_ml_sar _ _ _ _ _ ?hm) ?k1 ?k2 ?k3 ?k4 ?k5 ?kK ?kd ?ku ?_; (case k1 => k_asm); (case k2 => k_asm); (case k3 => k_asm); (case k4 => k_asm); (case k5 => k_asm); (case kK => first | exact rfl | assumption); (case kd => first | ((with_reducible refine' room_dp ?rdh ?rdk); (case rdh => with_reducible assumption); (case rdk => decide)) | ktr_room); (case ku => first | ((with_reducible refine' room_un ?ruh ?ruk); (case ruh => with_reducible assumption); (case ruk => decide)) | ktr_units); (case hm => (law_clear; first | omega | ((try simp only [decide_eq_true_eq, decide_eq_false_iff_not, gj, ij, cj, jj, aj, sj, leapS] at *); first | done | omega))); intro t9 h9 tk9 F9 N9; (try dsimp only); (try k_fold))))
local macro_rules | `(tactic| walk_at "call ref") => `(tactic| (k_here; (with_reducible show wpAny _ _ (PySem.call (Value.ref 297) [Value.int _ _]) _ _ _); k_dflt (refine' use (c_jd _ _ ?hd) ?k1 ?k2 ?k3 ?k4 ?k5 ?kK ?kd ?ku ?_; (case k1 => k_asm); (case k2 => k_asm); (case k3 => k_asm); (case k4 => k_asm); (case k5 => k_asm); (case kK => first | exact rfl | assumption); (case kd => first | ((with_reducible refine' room_dp ?rdh ?rdk); (case rdh => with_reducible assumption); (case rdk => decide)) | ktr_room); (case ku => first | ((with_reducible refine' room_un ?ruh ?ruk); (case ruh => with_reducible assumption); (case ruk => decide)) | ktr_units); (case hd => (law_clear; first | omega | ((try simp only [decide_eq_true_eq, decide_eq_false_iff_not, gj, ij, cj, jj, aj, sj, leapS] at *); first | done | omega))); intro t9 h9 tk9 F9 N9; (try dsimp only); (try k_fold))))
local macro_rules | `(tactic| walk_at "call ref") => `(tactic| (k_here; (with_reducible show wpAny _ _ (PySem.call (Value.ref 318) [Value.int _ _, Value.int 1948440 _, Value.int 1 _, Value.ref 280, Value.int 0 _]) _ _ _); k_dflt (refine' use (c_date_isl _ _ _ _ _ ?hd) ?k1 ?k2 ?k3 ?k4 ?k5 ?kK ?kd ?ku ?_; (case k1 => k_asm); (case k2 => k_asm); (case k3 => k_asm); (case k4 => k_asm); (case k5 => k_asm); (case kK => first | exact rfl | assumption); (case kd => first | ((with_reducible refine' room_dp ?rdh ?rdk); (case rdh => with_reducible assumption); (case rdk => decide)) | ktr_room); (case ku => first | ((with_reducible refine' room_un ?ruh ?ruk); (case ruh => with_reducible assumption); (case ruk => decide)) | ktr_units); (case hd => (law_clear; first | omega | ((try simp only [decide_eq_true_eq, decide_eq_false_iff_not, gj, ij, cj, jj, aj, sj, leapS] at *); first | done | omega))); intro D9 T9 L9 t9 u9 v9 vs9 n9 h9 tk9 hi9 F9 N9; (try dsimp only); (try k_fold))))
local macro_rules | `(tactic| walk_at "call ref") => `(tactic| (k_here; (with_reducible show wpAny _ _ (PySem.call (Value.ref 318) [Value.int _ _, Value.int 1825030 _, Value.int 1 _, Value.ref 281, Value.int 1 _]) _ _ _); k_dflt (refine' use (c_date_cop _ _ _ _ _ ?hd) ?k1 ?k2 ?k3 ?k4 ?k5 ?kK ?kd ?ku ?_; (case k1 => k_asm); (case k2 => k_asm); (case k3 => k_asm); (case k4 => k_asm); (case k5 => k_asm); (case kK => first | exact rfl | assumption); (case kd => first | ((with_reducible refine' room_dp ?rdh ?rdk); (case rdh => with_reducible assumption); (case rdk => decide)) | ktr_room); (case ku => first | ((with_reducible refine' room_un ?ruh ?ruk); (case ruh => with_reducible assumption); (case ruk => decide)) | ktr_units); (case hd => (law_clear; first | omega | ((try simp only [decide_eq_true_eq, decide_eq_false_iff_not, gj, ij, cj, jj, aj, sj, leapS] at *); first | done | omega))); intro D9 T9 L9 t9 u9 v9 vs9 n9 h9 tk9 hi9 F9 N9; (try dsimp only); (try k_fold))))
local macro_rules | `(tactic| walk_at "call ref") => `(tactic| (k_here; (with_reducible show wpAny _ _ (PySem.call (Value.ref 318) [Value.int _ _, Value.int 1721424 _, Value.int 1 _, Value.ref 282, Value.int 2 _]) _ _ _); k_dflt (refine' use (c_date_lat _ _ _ _ _ ?hd) ?k1 ?k2 ?k3 ?k4 ?k5 ?kK ?kd ?ku ?_; (case k1 => k_asm); (case k2 => k_asm); (case k3 => k_asm); (case k4 => k_asm); (case k5 => k_asm); (case kK => first | exact rfl | assumption); (case kd => first | ((with_reducible refine' room_dp ?rdh ?rdk); (case rdh => with_reducible assumption); (case rdk => decide)) | ktr_room); (case ku => first | ((with_reducible refine' room_un ?ruh ?ruk); (case ruh => with_reducible assumption); (case ruk => decide)) | ktr_units); (case hd => (law_clear; first | omega | ((try simp only [decide_eq_true_eq, decide_eq_false_iff_not, gj, ij, cj, jj, aj, sj, leapS] at *); first | done | omega))); intro D9 T9 L9 t9 u9 v9 vs9 n9 h9 tk9 hi9 F9 N9; (try dsimp only); (try k_fold))))
local macro_rules | `(tactic| walk_at "call ref") => `(tactic| (k_here; (with_reducible show wpAny _ _ (PySem.call (Value.ref 318) [Value.int _ _, Value.int 1922868 _, Value.int 1 _, Value.ref 283, Value.int 1 _]) _ _ _); k_dflt (refine' use (c_date_arm _ _ _ _ _ ?hd) ?k1 ?k2 ?k3 ?k4 ?k5 ?kK ?kd ?ku ?_; (case k1 => k_asm); (case k2 => k_asm); (case k3 => k_asm); (case k4 => k_asm); (case k5 => k_asm); (case kK => first | exact rfl | assumption); (case kd => first | ((with_reducible refine' room_dp ?rdh ?rdk); (case rdh => with_reducible assumption); (case rdk => decide)) | ktr_room); (case ku => first | ((with_reducible refine' room_un ?ruh ?ruk); (case ruh => with_reducible assumption); (case ruk => decide)) | ktr_units); (case hd => (law_clear; first | omega | ((try simp only [decide_eq_true_eq, decide_eq_false_iff_not, gj, ij, cj, jj, aj, sj, leapS] at *); first | done | omega))); intro D9 T9 L9 t9 u9 v9 vs9 n9 h9 tk9 hi9 F9 N9; (try dsimp only); (try k_fold))))
local macro_rules | `(tactic| walk_at "call ref") => `(tactic| (k_here; (with_reducible show wpAny _ _ (PySem.call (Value.ref 318) [Value.int _ _, Value.int 2117212 _, Value.int 533 _, Value.ref 282, Value.int 1 _]) _ _ _); k_dflt (refine' use (c_date_sar _ _ _ _ _ ?hd) ?k1 ?k2 ?k3 ?k4 ?k5 ?kK ?kd ?ku ?_; (case k1 => k_asm); (case k2 => k_asm); (case k3 => k_asm); (case k4 => k_asm); (case k5 => k_asm); (case kK => first | exact rfl | assumption); (case kd => first | ((with_reducible refine' room_dp ?rdh ?rdk); (case rdh => with_reducible assumption); (case rdk => decide)) | ktr_room); (case ku => first | ((with_reducible refine' room_un ?ruh ?ruk); (case ruh => with_reducible assumption); (case ruk => decide)) | ktr_units); (case hd => (law_clear; first | omega | ((try simp only [decide_eq_true_eq, decide_eq_false_iff_not, gj, ij, cj, jj, aj, sj, leapS] at *); first | done | omega))); intro D9 T9 L9 t9 u9 v9 vs9 n9 h9 tk9 hi9 F9 N9; (try dsimp only); (try k_fold))))
local macro_rules | `(tactic| walk_at "call ref") => `(tactic| (k_here; (with_reducible show wpAny _ _ (PySem.call (Value.ref 344) [Value.ref _, Value.ref _]) _ _ _); k_dflt (refine' use (c_next _ _ _ _ _ _ _ _ _ _ _ _ _ _ ?hi ?hl ?hm ?hx) ?k1 ?k2 ?k3 ?k4 ?k5 ?kK ?kd ?ku ?_; (case k1 => k_asm); (case k2 => k_asm); (case k3 => k_asm); (case k4 => k_asm); (case k5 => k_asm); (case kK => first | exact rfl | assumption); (case kd => first | ((with_reducible refine' room_dp ?rdh ?rdk); (case rdh => with_reducible assumption); (case rdk => decide)) | ktr_room); (case ku => first | ((with_reducible refine' room_un ?ruh ?ruk); (case ruh => with_reducible assumption); (case ruk => decide)) | ktr_units); (case hi => assumption); (case hx => assumption); (case hl => first | exact szs_len _ _ | omega); (case hm => (law_clear; first | omega | ((try simp only [decide_eq_true_eq, decide_eq_false_iff_not, gj, ij, cj, jj, aj, sj, leapS] at *); first | done | omega))); rotate_right; refine' ⟨?mT, ?_⟩; (case mT => first | k_mem | ((repeat (refine' List.Mem.tail _ ?_)); assumption)); refine' ⟨?mL, ?_⟩; (case mL => k_mem); intro D9 t9 u9 v9 h9 tk9 F9 N9; (try dsimp only); (try k_fold))))
local macro_rules | `(tactic| walk_at "eval Name") => `(tactic| (k_here; k_dflt (first | (name_kind "local"; refine' nameX_L ?F ?v ?_ ?a ?b ?c; (case F => k_asm); (case a => kernel_rfl); (case b => kernel_rfl); (case c => kernel_rfl); (case v => first | (refine' look_of ?gg ?ge; (case gg => (repeat (first | (with_reducible exact guess_hit_l) | (with_reducible apply guess_miss_l) | (with_reducible exact guess_hit_if) | ((with_reducible show Guess (@ite _ _ _ _ _) _); (with_reducible apply guess_miss_if))))); (case ge => kernel_rfl)) | exact rfl)) | (name_kind "globalImplicit"; refine' nameX_K ?F ?X ?T ?e ?_ ?a ?b ?c; (case F => k_asm); (case X => k_asm); (case T => k_asm); (case e => with_reducible (first | exact gn_law_date _ | exact gn_law_next _ | exact gn_to_jd_armenian _ | exact gn_law_jd _ | exact gn_month_length_armenian _ | exact gn_from_gregorian_armenian _ | exact gn_from_julian _ | exact gn_from_jd_armenian _ | exact gn_leap_armenian _ | exact gn_to_gregorian_armenian _ | exact gn_to_julian _)); (case a => kernel_rfl); (case b => kernel_rfl); (case c => kernel_rfl)) | (name_kind "globalImplicit"; refine' nameX_B ?F ?X ?T ?e ?v ?n ?_ ?a ?b ?c; (case F => k_asm); (case X => k_asm); (case T => k_asm); (case e => with_reducible (first | exact gb_ValueError _)); (case v => with_reducible (first | exact bb_ValueError)); (case a => kernel_rfl); (case b => kernel_rfl); (case n => decide); (case c => kernel_rfl)))))
set_option maxRecDepth 100000 in
set_option maxHeartbeats 8000000 in
theorem c_hi_sar (day : Int) (R La : Addr) (t z1 z2 z3 u1 u2 u3 v1 v2 v3 z9 : Tok) (hd : 2117212 ≤ day ∧ day < 9000000000) :
    Claim 365 [.int day t, .str (Str.ofString "sarkawag") z9, .int 2117211 z1, .int 2117212 z2, .int 533 z3, .ref 282, .ref R, .ref La] 9 (WithT R (tup3 (romY day) u1 (romM day) u2 (romD day) u3) (WithT La (tup3 (latY day) v1 (latM day) v2 (latD day) v3) (RetV fun _ => .bool true))) := by
  refine gate_out ?_
  simp (disch := (k_dflt (
  intro prog w p loose mean mg mb dp un gd cn cs a ccd cl outer A₀ base h₀ L mm news s Q E B F X N T hk hdp hun hret
  obtain ⟨hR, hLa, hret⟩ := hret
  have hlen : ((szs 1 (sarS day)).length : Int) = 13 := rfl
  have hnx := sar_next day
  obtain ⟨f1, f2, f3, hY⟩ := sar_year day
  obtain ⟨g1, g2⟩ := sar_month day
  have hY5 : 533 ≤ sarY day := by omega
  have h1 : Hint ((szs 1 (sarS day)).getD (sarM day - 1).toNat 0) (mls (sarY day) (sarM day)) := ⟨sar_ml day hY5⟩
  have h2 : Hint ((szs 1 (sarS day)).getD (Int.toNat 12) 0) (sarS day - 360) := ⟨rfl⟩
  have hM : 1 ≤ sarM day ∧ sarM day ≤ 13 := by omega
  clear f1 f2 f3 g1 g2
  (refine wpAny_call ?_; (k_dflt cell_enter); (try ((rename Fr _ _ _ _ => F8); (first | (have F9 := Fr_as F8 (m' := fun y9 => List.lookup y9 [(Str.ofString "latin", (.ref La : Value)), (Str.ofString "roman", (.ref R : Value)), (Str.ofString "cycle", (.ref 282 : Value)), (Str.ofString "start", (.int 533 z3 : Value)), (Str.ofString "first", (.int 2117212 z2 : Value)), (Str.ofString "edge", (.int 2117211 z1 : Value)), (Str.ofString "method", (.str (Str.ofString "sarkawag") z9 : Value)), (Str.ofString "day", (.int day t : Value))]) rfl) | (have F9 := Fr_as F8 (m' := fun y9 => List.lookup y9 [(Str.ofString "day", (.int day t : Value)), (Str.ofString "method", (.str (Str.ofString "sarkawag") z9 : Value)), (Str.ofString "edge", (.int 2117211 z1 : Value)), (Str.ofString "first", (.int 2117212 z2 : Value)), (Str.ofString "start", (.int 533 z3 : Value)), (Str.ofString "cycle", (.ref 282 : Value)), (Str.ofString "roman", (.ref R : Value)), (Str.ofString "latin", (.ref La : Value))]) rfl)); clear F8));  k_steps; all_goals (first | (((first | (with_reducible refine' hret 0 ?_ ?_ ?cbF ?cbN) | (with_reducible refine' hret _ ?_ ?_ ?cbF ?cbN))); (case cbF => k_asm); (case cbN => first | (with_reducible assumption) | (refine' cb_drop ?cbM ?cbS; (case cbM => assumption); (case cbS => (first | (intro p9 hp9; (repeat (with_reducible refine List.mem_cons_of_mem _ ?_)); exact hp9) | kcj_all))))) | cb_end hret))))) only [↓gate_true]
end
section
local macro_rules | `(tactic| walk_at "call ref") => `(tactic| (k_here; (with_reducible show wpAny _ _ (PySem.call (Value.ref 221) [Value.int _ _]) _ _ _); k_dflt (refine' use (c_leap_arm _ _) ?k1 ?k2 ?k3 ?k4 ?k5 ?kK ?kd ?ku ?_; (case k1 => k_asm); (case k2 => k_asm); (case k3 => k_asm); (case k4 => k_asm); (case k5 => k_asm); (case kK => first | exact rfl | assumption); (case kd => first | ((with_reducible refine' room_dp ?rdh ?rdk); (case rdh => with_reducible assumption); (case rdk => decide)) | ktr_room); (case ku => first | ((with_reducible refine' room_un ?ruh ?ruk); (case ruh => with_reducible assumption); (case ruk => decide)) | ktr_units); intro t9 h9 tk9 F9 N9; (try dsimp only); (try k_fold))))
local macro_rules | `(tactic| walk_at "call ref") => `(tactic| (k_here; (with_reducible show wpAny _ _ (PySem.call (Value.ref 229) [Value.int _ _, Value.int _ _, Value.int _ _, Value.none]) _ _ _); k_dflt (refine' use (c_tojd_n _ _ _ _ _ _ ?hy ?hm ?hd ?hl) ?k1 ?k2 ?k3 ?k4 ?k5 ?kK ?kd ?ku ?_; (case k1 => k_asm); (case k2 => k_asm); (case k3 => k_asm); (case k4 => k_asm); (case k5 => k_asm); (case kK => first | exact rfl | assumption); (case kd => first | ((with_reducible refine' room_dp ?rdh ?rdk); (case rdh => with_reducible assumption); (case rdk => decide)) | ktr_room); (case ku => first | ((with_reducible refine' room_un ?ruh ?ruk); (case ruh => with_reducible assumption); (case ruk => decide)) | ktr_units); (case hy => (law_clear; first | omega | ((try simp only [decide_eq_true_eq, decide_eq_false_iff_not, gj, ij, cj, jj, aj, sj, leapS] at *); first | done | omega))); (case hm => (law_clear; first | omega | ((try simp only [decide_eq_true_eq, decide_eq_false_iff_not, gj, ij, cj, jj, aj, sj, leapS] at *); first | done | omega))); (case hd => (law_clear; first | omega | ((try simp only [decide_eq_true_eq, decide_eq_false_iff_not, gj, ij, cj, jj, aj, sj, leapS] at *); first | done | omega))); (case hl => (law_clear; first | omega | ((try simp only [decide_eq_true_eq, decide_eq_false_iff_not, gj, ij, cj, jj, aj, sj, leapS] at *); first | done | omega))); intro t9 h9 tk9 F9 N9; (try dsimp only); (try k_fold))))
local macro_rules | `(tactic| walk_at "call ref") => `(tactic| (k_here; (with_reducible show wpAny _ _ (PySem.call (Value.ref 229) [Value.int _ _, Value.int _ _, Value.int _ _, Value.str (Str.ofString "sarkawag") _]) _ _ _); k_dflt (refine' use (c_tojd_s _ _ _ _ _ _ _ ?hy ?hm ?hd ?hl) ?k1 ?k2 ?k3 ?k4 ?k5 ?kK ?kd ?ku ?_; (case k1 => k_asm); (case k2 => k_asm); (case k3 => k_asm); (case k4 => k_asm); (case k5 => k_asm); (case kK => first | exact rfl | assumption); (case kd => first | ((with_reducible refine' room_dp ?rdh ?rdk); (case rdh => with_reducible assumption); (case rdk => decide)) | ktr_room); (case ku => first | ((with_reducible refine' room_un ?ruh ?ruk); (case ruh => with_reducible assumption); (case ruk => decide)) | ktr_units); (case hy => (law_clear; first | omega | ((try simp only [decide_eq_true_eq, decide_eq_false_iff_not, gj, ij, cj, jj, aj, sj, leapS] at *); first | done | omega))); (case hm => (law_clear; first | omega | ((try simp only [decide_eq_true_eq, decide_eq_false_iff_not, gj, ij, cj, jj, aj, sj, leapS] at *); first | done | omega))); (case hd => (law_clear; first | omega | ((try simp only [decide_eq_true_eq, decide_eq_false_iff_not, gj, ij, cj, jj, aj, sj, leapS] at *); first | done | omega))); (case hl => (law_clear; first | omega | ((try simp only [decide_eq_true_eq, decide_eq_false_iff_not, gj, ij, cj, jj, aj, sj, leapS] at *); first | done | omega))); intro t9 h9 tk9 F9 N9; (try dsimp only); (try k_fold))))
local macro_rules | `(tactic| walk_at "call ref") => `(tactic| (k_here; (with_reducible show wpAny _ _ (PySem.call (Value.ref 229) [Value.int (armY _) _, Value.int (armM _) _, Value.int (armD _) _, Value.none]) _ _ _); k_dflt (refine' use (c_tojd_arm_at _ _ _ _ ?hd) ?k1 ?k2 ?k3 ?k4 ?k5 ?kK ?kd ?ku ?_; (case k1 => k_asm); (case k2 => k_asm); (case k3 => k_asm); (case k4 => k_asm); (case k5 => k_asm); (case kK => first | exact rfl | assumption); (case kd => first | ((with_reducible refine' room_dp ?rdh ?rdk); (case rdh => with_reducible assumption); (case rdk => decide)) | ktr_room); (case ku => first | ((with_reducible refine' room_un ?ruh ?ruk); (case ruh => with_reducible assumption); (case ruk => decide)) | ktr_units); (case hd => (law_clear; first | omega | ((try simp only [decide_eq_true_eq, decide_eq_false_iff_not, gj, ij, cj, jj, aj, sj, leapS] at *); first | done | omega))); intro t9 h9 tk9 F9 N9; (try dsimp only); (try k_fold))))
local macro_rules | `(tactic| walk_at "call ref") => `(tactic| (k_here; (with_reducible show wpAny _ _ (PySem.call (Value.ref 229) [Value.int (sarY _) _, Value.int (sarM _) _, Value.int (sarD _) _, Value.str (Str.ofString "sarkawag") _]) _ _ _); k_dflt (refine' use (c_tojd_sar_at _ _ _ _ _ ?hd) ?k1 ?k2 ?k3 ?k4 ?k5 ?kK ?kd ?ku ?_; (case k1 => k_asm); (case k2 => k_asm); (case k3 => k_asm); (case k4 => k_asm); (case k5 => k_asm); (case kK => first | exact rfl | assumption); (case kd => first | ((with_reducible refine' room_dp ?rdh ?rdk); (case rdh => with_reducible assumption); (case rdk => decide)) | ktr_room); (case ku => first | ((with_reducible refine' room_un ?ruh ?ruk); (case ruh => with_reducible assumption); (case ruk => decide)) | ktr_units); (case hd => (law_clear; first | omega | ((try simp only [decide_eq_true_eq, decide_eq_false_iff_not, gj, ij, cj, jj, aj, sj, leapS] at *); first | done | omega))); intro t9 h9 tk9 F9 N9; (try dsimp only); (try k_fold))))
local macro_rules | `(tactic| walk_at "call ref") => `(tactic| (k_here; (with_reducible show wpAny _ _ (PySem.call (Value.ref 237) [Value.float (H (2 * _ - 1)) _, Value.none]) _ _ _); k_dflt (refine' use (c_fromjd_arm _ _ ?hd) ?k1 ?k2 ?k3 ?k4 ?k5 ?kK ?kd ?ku ?_; (case k1 => k_asm); (case k2 => k_asm); (case k3 => k_asm); (case k4 => k_asm); (case k5 => k_asm); (case kK => first | exact rfl | assumption); (case kd => first | ((with_reducible refine' room_dp ?rdh ?rdk); (case rdh => with_reducible assumption); (case rdk => decide)) | ktr_room); (case ku => first | ((with_reducible refine' room_un ?ruh ?ruk); (case ruh => with_reducible assumption); (case ruk => decide)) | ktr_units); (case hd => (law_clear; first | omega | ((try simp only [decide_eq_true_eq, decide_eq_false_iff_not, gj, ij, cj, jj, aj, sj, leapS] at *); first | done | omega))); intro D9 t9 u9 v9 h9 tk9 F9 N9; (try dsimp only); (try k_fold))))
local macro_rules | `(tactic| walk_at "call ref") => `(tactic| (k_here; (with_reducible show wpAny _ _ (PySem.call (Value.ref 237) [Value.float (H (2 * _ - 1)) _, Value.str (Str.ofString "sarkawag") _]) _ _ _); k_dflt (refine' use (c_fromjd_sar _ _ _ ?hd) ?k1 ?k2 ?k3 ?k4 ?k5 ?kK ?kd ?ku ?_; (case k1 => k_asm); (case k2 => k_asm); (case k3 => k_asm); (case k4 => k_asm); (case k5 => k_asm); (case kK => first | exact rfl | assumption); (case kd => first | ((with_reducible refine' room_dp ?rdh ?rdk); (case rdh => with_reducible assumption); (case rdk => decide)) | ktr_room); (case ku => first | ((with_reducible refine' room_un ?ruh ?ruk); (case ruh => with_reducible assumption); (case ruk => decide)) | ktr_units); (case hd => (law_clear; first | omega | ((try simp only [decide_eq_true_eq, decide_eq_false_iff_not, gj, ij, cj, jj, aj, sj, leapS] at *); first | done | omega))); intro D9 t9 u9 v9 h9 tk9 F9 N9; (try dsimp only); (try k_fold))))
local macro_rules | `(tactic| walk_at "call ref") => `(tactic| (k_here; (with_reducible show wpAny _ _ (PySem.call (Value.ref 245) [Value.int (armY _) _, Value.int (armM _) _, Value.int (armD _) _, Value.none]) _ _ _); k_dflt (refine' use (c_tojul_arm _ _ _ _ ?hd) ?k1 ?k2 ?k3 ?k4 ?k5 ?kK ?kd ?ku ?_; (case k1 => k_asm); (case k2 => k_asm); (case k3 => k_asm); (case k4 => k_asm); (case k5 => k_asm); (case kK => first | exact rfl | assumption); (case kd => first | ((with_reducible refine' room_dp ?rdh ?rdk); (case rdh => with_reducible assumption); (case rdk => decide)) | ktr_room); (case ku => first | ((with_reducible refine' room_un ?ruh ?ruk); (case ruh => with_reducible assumption); (case ruk => decide)) | ktr_units); (case hd => (law_clear; first | omega | ((try simp only [decide_eq_true_eq, decide_eq_false_iff_not, gj, ij, cj, jj, aj, sj, leapS] at *); first | done | omega))); intro D9 t9 u9 v9 h9 tk9 F9 N9; (try dsimp only); (try k_fold))))
local macro_rules | `(tactic| walk_at "call ref") => `(tactic| (k_here; (with_reducible show wpAny _ _ (PySem.call (Value.ref 253) [Value.int (latY _) _, Value.int (latM _) _, Value.int (latD _) _, Value.none]) _ _ _); k_dflt (refine' use (c_fromjul_arm _ _ _ _ ?hd) ?k1 ?k2 ?k3 ?k4 ?k5 ?kK ?kd ?ku ?_; (case k1 => k_asm); (case k2 => k_asm); (case k3 => k_asm); (case k4 => k_asm); (case k5 => k_asm); (case kK => first | exact rfl | assumption); (case kd => first | ((with_reducible refine' room_dp ?rdh ?rdk); (case rdh => with_reducible assumption); (case rdk => decide)) | ktr_room); (case ku => first | ((with_reducible refine' room_un ?ruh ?ruk); (case ruh => with_reducible assumption); (case ruk => decide)) | ktr_units); (case hd => (law_clear; first | omega | ((try simp only [decide_eq_true_eq, decide_eq_false_iff_not, gj, ij, cj, jj, aj, sj, leapS] at *); first | done | omega))); intro D9 t9 u9 v9 h9 tk9 F9 N9; (try dsimp only); (try k_fold))))
local macro_rules | `(tactic| walk_at "call ref") => `(tactic| (k_here; (with_reducible show wpAny _ _ (PySem.call (Value.ref 261) [Value.int (armY _) _, Value.int (armM _) _, Value.int (armD _) _, Value.none]) _ _ _); k_dflt (refine' use (c_togreg_arm _ _ _ _ ?hd) ?k1 ?k2 ?k3 ?k4 ?k5 ?kK ?kd ?ku ?_; (case k1 => k_asm); (case k2 => k_asm); (case k3 => k_asm); (case k4 => k_asm); (case k5 => k_asm); (case kK => first | exact rfl | assumption); (case kd => first | ((with_reducible refine' room_dp ?rdh ?rdk); (case rdh => with_reducible assumption); (case rdk => decide)) | ktr_room); (case ku => first | ((with_reducible refine' room_un ?ruh ?ruk); (case ruh => with_reducible assumption); (case ruk => decide)) | ktr_units); (case hd => (law_clear; first | omega | ((try simp only [decide_eq_true_eq, decide_eq_false_iff_not, gj, ij, cj, jj, aj, sj, leapS] at *); first | done | omega))); intro D9 t9 u9 v9 h9 tk9 F9 N9; (try dsimp only); (try k_fold))))
local macro_rules | `(tactic| walk_at "call ref") => `(tactic| (k_here; (with_reducible show wpAny _ _ (PySem.call (Value.ref 269) [Value.int (romY _) _, Value.int (romM _) _, Value.int (romD _) _, Value.none]) _ _ _); k_dflt (refine' use (c_fromgreg_arm _ _ _ _ ?hd) ?k1 ?k2 ?k3 ?k4 ?k5 ?kK ?kd ?ku ?_; (case k1 => k_asm); (case k2 => k_asm); (case k3 => k_asm); (case k4 => k_asm); (case k5 => k_asm); (case kK => first | exact rfl | assumption); (case kd => first | ((with_reducible refine' room_dp ?rdh ?rdk); (case rdh => with_reducible assumption); (case rdk => decide)) | ktr_room); (case ku => first | ((with_reducible refine' room_un ?ruh ?ruk); (case ruh => with_reducible assumption); (case ruk => decide)) | ktr_units); (case hd => (law_clear; first | omega | ((try simp only [decide_eq_true_eq, decide_eq_false_iff_not, gj, ij, cj, jj, aj, sj, leapS] at *); first | done | omega))); intro D9 t9 u9 v9 h9 tk9 F9 N9; (try dsimp only); (try k_fold))))
local macro_rules | `(tactic| walk_at "call ref") => `(tactic| (k_here; (with_reducible show wpAny _ _ (PySem.call (Value.ref 245) [Value.int (sarY _) _, Value.int (sarM _) _, Value.int (sarD _) _, Value.str (Str.ofString "sarkawag") _]) _ _ _); k_dflt (refine' use (c_tojul_sar _ _ _ _ _ ?hd) ?k1 ?k2 ?k3 ?k4 ?k5 ?kK ?kd ?ku ?_; (case k1 => k_asm); (case k2 => k_asm); (case k3 => k_asm); (case k4 => k_asm); (case k5 => k_asm); (case kK => first | exact rfl | assumption); (case kd => first | ((with_reducible refine' room_dp ?rdh ?rdk); (case rdh => with_reducible assumption); (case rdk => decide)) | ktr_room); (case ku => first | ((with_reducible refine' room_un ?ruh ?ruk); (case ruh => with_reducible assumption); (case ruk => decide)) | ktr_units); (case hd => (law_clear; first | omega | ((try simp only [decide_eq_true_eq, decide_eq_false_iff_not, gj, ij, cj, jj, aj, sj, leapS] at *); first | done | omega))); intro D9 t9 u9 v9 h9 tk9 F9 N9; (try dsimp only); (try k_fold))))
local macro_rules | `(tactic| walk_at "call ref") => `(tactic| (k_here; (with_reducible show wpAny _ _ (PySem.call (Value.ref 253) [Value.int (latY _) _, Value.int (latM _) _, Value.int (latD _) _, Value.str (Str.ofString "sarkawag") _]) _ _ _); k_dflt (refine' use (c_fromjul_sar _ _ _ _ _ ?hd) ?k1 ?k2 ?k3 ?k4 ?k5 ?kK ?kd ?ku ?_; (case k1 => k_asm); (case k2 => k_asm); (case k3 => k_asm); (case k4 => k_asm); (case k5 => k_asm); (case kK => first | exact rfl | assumption); (case kd => first | ((with_reducible refine' room_dp ?rdh ?rdk); (case rdh => with_reducible assumption); (case rdk => decide)) | ktr_room); (case ku => first | ((with_reducible refine' room_un ?ruh ?ruk); (case ruh => with_reducible assumption); (case ruk => decide)) | ktr_units); (case hd => (law_clear; first | omega | ((try simp only [decide_eq_true_eq, decide_eq_false_iff_not, gj, ij, cj, jj, aj, sj, leapS] at *); first | done | omega))); intro D9 t9 u9 v9 h9 tk9 F9 N9; (try dsimp only); (try k_fold))))
local macro_rules | `(tactic| walk_at "call ref") => `(tactic| (k_here; (with_reducible show wpAny _ _ (PySem.call (Value.ref 261) [Value.int (sarY _) _, Value.int (sarM _) _, Value.int (sarD _) _, Value.str (Str.ofString "sarkawag") _]) _ _ _); k_dflt (refine' use (c_togreg_sar _ _ _ _ _ ?hd) ?k1 ?k2 ?k3 ?k4 ?k5 ?kK ?kd ?ku ?_; (case k1 => k_asm); (case k2 => k_asm); (case k3 => k_asm); (case k4 => k_asm); (case k5 => k_asm); (case kK => first | exact rfl | assumption); (case kd => first | ((with_reducible refine' room_dp ?rdh ?rdk); (case rdh => with_reducible assumption); (case rdk => decide)) | ktr_room); (case ku => first | ((with_reducible refine' room_un ?ruh ?ruk); (case ruh => with_reducible assumption); (case ruk => decide)) | ktr_units); (case hd => (law_clear; first | omega | ((try simp only [decide_eq_true_eq, decide_eq_false_iff_not, gj, ij, cj, jj, aj, sj, leapS] at *); first | done | omega))); intro D9 t9 u9 v9 h9 tk9 F9 N9; (try dsimp only); (try k_fold))))
local macro_rules | `(tactic| walk_at "call ref") => `(tactic| (k_here; (with_reducible show wpAny _ _ (PySem.call (Value.ref 269) [Value.int (romY _) _, Value.int (romM _) _, Value.int (romD _) _, Value.str (Str.ofString "sarkawag") _]) _ _ _); k_dflt (refine' use (c_fromgreg_sar _ _ _ _ _ ?hd) ?k1 ?k2 ?k3 ?k4 ?k5 ?kK ?kd ?ku ?_; (case k1 => k_asm); (case k2 => k_asm); (case k3 => k_asm); (case k4 => k_asm); (case k5 => k_asm); (case kK => first | exact rfl | assumption); (case kd => first | ((with_reducible refine' room_dp ?rdh ?rdk); (case rdh => with_reducible assumption); (case rdk => decide)) | ktr_room); (case ku => first | ((with_reducible refine' room_un ?ruh ?ruk); (case ruh => with_reducible assumption); (case ruk => decide)) | ktr_units); (case hd => (law_clear; first | omega | ((try simp only [decide_eq_true_eq, decide_eq_false_iff_not, gj, ij, cj, jj, aj, sj, leapS] at *); first | done | omega))); intro D9 t9 u9 v9 h9 tk9 F9 N9; (try dsimp only); (try k_fold))))
local macro_rules | `(tactic| walk_at "call ref") => `(tactic| (k_here; (with_reducible show wpAny _ _ (PySem.call (Value.ref 277) [Value.int _ _, Value.int _ _, Value.none]) _ _ _); k_dflt (refine' use (c_ml_arm _ _ _ _ ?hm) ?k1 ?k2 ?k3 ?k4 ?k5 ?kK ?kd ?ku ?_; (case k1 => k_asm); (case k2 => k_asm); (case k3 => k_asm); (case k4 => k_asm); (case k5 => k_asm); (case kK => first | exact rfl | assumption); (case kd => first | ((with_reducible refine' room_dp ?rdh ?rdk); (case rdh => with_reducible assumption); (case rdk => decide)) | ktr_room); (case ku => first | ((with_reducible refine' room_un ?ruh ?ruk); (case ruh => with_reducible assumption); (case ruk => decide)) | ktr_units); (case hm => (law_clear; first | omega | ((try simp only [decide_eq_true_eq, decide_eq_false_iff_not, gj, ij, cj, jj, aj, sj, leapS] at *); first | done | omega))); intro t9 h9 tk9 F9 N9; (try dsimp only); (try k_fold))))
local macro_rules | `(tactic| walk_at "call ref") => `(tactic| (k_here; (with_reducible show wpAny _ _ (PySem.call (Value.ref 277) [Value.int _ _, Value.int _ _, Value.str (Str.ofString "sarkawag") _]) _ _ _); k_dflt (refine' use (c_ml_sar _ _ _ _ _ ?hm) ?k1 ?k2 ?k3 ?k4 ?k5 ?kK ?kd ?ku ?_; (case k1 => k_asm); (case k2 => k_asm); (case k3 => k_asm); (case k4 => k_asm); (case k5 => k_asm); (case kK => first | exact rfl | assumption); (case kd => first | ((with_reducible refine' room_dp ?rdh ?rdk); (case rdh => with_reducible assumption); (case rdk => decide)) | ktr_room); (case ku => first | ((with_reducible refine' room_un ?ruh ?ruk); (case ruh => with_reducible assumption); (case ruk => decide)) | ktr_units); (case hm => (law_clear; first | omega | ((try simp only [decide_eq_true_eq, decide_eq_false_iff_not, gj, ij, cj, jj, aj, sj, leapS] at *); first | done | omega))); intro t9 h9 tk9 F9 N9; (try dsimp only); (try k_fold))))
local macro_rules | `(tactic| walk_at "call ref") => `(tactic| (k_here; (with_reducible show wpAny _ _ (PySem.call (Value.ref 297) [Value.int _ _]) _ _ _); k_dflt (refine' use (c_jd _ _ ?hd) ?k1 ?k2 ?k3 ?k4 ?k5 ?kK ?kd ?ku ?_; (case k1 => k_asm); (case k2 => k_asm); (case k3 => k_asm); (case k4 => k_asm); (case k5 => k_asm); (case kK => first | exact rfl | assumption); (case kd => first | ((with_reducible refine' room_dp ?rdh ?rdk); (case rdh => with_reducible assumption); (case rdk => decide)) | ktr_room); (case ku => first | ((with_reducible refine' room_un ?ruh ?ruk); (case ruh => with_reducible assumption); (case ruk => decide)) | ktr_units); (case hd => (law_clear; first | omega | ((try simp only [decide_eq_true_eq, decide_eq_false_iff_not, gj, ij, cj, jj, aj, sj, leapS] at *); first | done | omega))); intro t9 h9 tk9 F9 N9; (try dsimp only); (try k_fold))))
local macro_rules | `(tactic| walk_at "call ref") => `(tactic| (k_here; (with_reducible show wpAny _ _ (PySem.call (Value.ref 318) [Value.int _ _, Value.int 1948440 _, Value.int 1 _, Value.ref 280, Value.int 0 _]) _ _ _); k_dflt (refine' use (c_date_isl _ _ _ _ _ ?hd) ?k1 ?k2 ?k3 ?k4 ?k5 ?kK ?kd ?ku ?_; (case k1 => k_asm); (case k2 => k_asm); (case k3 => k_asm); (case k4 => k_asm); (case k5 => k_asm); (case kK => first | exact rfl | assumption); (case kd => first | ((with_reducible refine' room_dp ?rdh ?rdk); (case rdh => with_reducible assumption); (case rdk => decide)) | ktr_room); (case ku => first | ((with_reducible refine' room_un ?ruh ?ruk); (case ruh => with_reducible assumption); (case ruk => decide)) | ktr_units); (case hd => (law_clear; first | omega | ((try simp only [decide_eq_true_eq, decide_eq_false_iff_not, gj, ij, cj, jj, aj, sj, leapS] at *); first | done | omega))); intro D9 T9 L9 t9 u9 v9 vs9 n9 h9 tk9 hi9 F9 N9; (try dsimp only); (try k_fold))))
local macro_rules | `(tactic| walk_at "call ref") => `(tactic| (k_here; (with_reducible show wpAny _ _ (PySem.call (Value.ref 318) [Value.int _ _, Value.int 1825030 _, Value.int 1 _, Value.ref 281, Value.int 1 _]) _ _ _); k_dflt (refine' use (c_date_cop _ _ _ _ _ ?hd) ?k1 ?k2 ?k3 ?k4 ?k5 ?kK ?kd ?ku ?_; (case k1 => k_asm); (case k2 => k_asm); (case k3 => k_asm); (case k4 => k_asm); (case k5 => k_asm); (case kK => first | exact rfl | assumption); (case kd => first | ((with_reducible refine' room_dp ?rdh ?rdk); (case rdh => with_reducible assumption); (case rdk => decide)) | ktr_room); (case ku => first | ((with_reducible refine' room_un ?ruh ?ruk); (case ruh => with_reducible assumption); (case ruk => decide)) | ktr_units); (case hd => (law_clear; first | omega | ((try simp only [decide_eq_true_eq, decide_eq_false_iff_not, gj, ij, cj, jj, aj, sj, leapS] at *); first | done | omega))); intro D9 T9 L9 t9 u9 v9 vs9 n9 h9 tk9 hi9 F9 N9; (try dsimp only); (try k_fold))))
local macro_rules | `(tactic| walk_at "call ref") => `(tactic| (k_here; (with_reducible show wpAny _ _ (PySem.call (Value.ref 318) [Value.int _ _, Value.int 1721424 _, Value.int 1 _, Value.ref 282, Value.int 2 _]) _ _ _); k_dflt (refine' use (c_date_lat _ _ _ _ _ ?hd) ?k1 ?k2 ?k3 ?k4 ?k5 ?kK ?kd ?ku ?_; (case k1 => k_asm); (case k2 => k_asm); (case k3 => k_asm); (case k4 => k_asm); (case k5 => k_asm); (case kK => first | exact rfl | assumption); (case kd => first | ((with_reducible refine' room_dp ?rdh ?rdk); (case rdh => with_reducible assumption); (case rdk => decide)) | ktr_room); (case ku => first | ((with_reducible refine' room_un ?ruh ?ruk); (case ruh => with_reducible assumption); (case ruk => decide)) | ktr_units); (case hd => (law_clear; first | omega | ((try simp only [decide_eq_true_eq, decide_eq_false_iff_not, gj, ij, cj, jj, aj, sj, leapS] at *); first | done | omega))); intro D9 T9 L9 t9 u9 v9 vs9 n9 h9 tk9 hi9 F9 N9; (try dsimp only); (try k_fold))))
local macro_rules | `(tactic| walk_at "call ref") => `(tactic| (k_here; (with_reducible show wpAny _ _ (PySem.call (Value.ref 318) [Value.int _ _, Value.int 1922868 _, Value.int 1 _, Value.ref 283, Value.int 1 _]) _ _ _); k_dflt (refine' use (c_date_arm _ _ _ _ _ ?hd) ?k1 ?k2 ?k3 ?k4 ?k5 ?kK ?kd ?ku ?_; (case k1 => k_asm); (case k2 => k_asm); (case k3 => k_asm); (case k4 => k_asm); (case k5 => k_asm); (case kK => first | exact rfl | assumption); (case kd => first | ((with_reducible refine' room_dp ?rdh ?rdk); (case rdh => with_reducible assumption); (case rdk => decide)) | ktr_room); (case ku => first | ((with_reducible refine' room_un ?ruh ?ruk); (case ruh => with_reducible assumption); (case ruk => decide)) | ktr_units); (case hd => (law_clear; first | omega | ((try simp only [decide_eq_true_eq, decide_eq_false_iff_not, gj, ij, cj, jj, aj, sj, leapS] at *); first | done | omega))); intro D9 T9 L9 t9 u9 v9 vs9 n9 h9 tk9 hi9 F9 N9; (try dsimp only); (try k_fold))))
local macro_rules | `(tactic| walk_at "call ref") => `(tactic| (k_here; (with_reducible show wpAny _ _ (PySem.call (Value.ref 318) [Value.int _ _, Value.int 2117212 _, Value.int 533 _, Value.ref 282, Value.int 1 _]) _ _ _); k_dflt (refine' use (c_date_sar _ _ _ _ _ ?hd) ?k1 ?k2 ?k3 ?k4 ?k5 ?kK ?kd ?ku ?_; (case k1 => k_asm); (case k2 => k_asm); (case k3 => k_asm); (case k4 => k_asm); (case k5 => k_asm); (case kK => first | exact rfl | assumption); (case kd => first | ((with_reducible refine' room_dp ?rdh ?rdk); (case rdh => with_reducible assumption); (case rdk => decide)) | ktr_room); (case ku => first | ((with_reducible refine' room_un ?ruh ?ruk); (case ruh => with_reducible assumption); (case ruk => decide)) | ktr_units); (case hd => (law_clear; first | omega | ((try simp only [decide_eq_true_eq, decide_eq_false_iff_not, gj, ij, cj, jj, aj, sj, leapS] at *); first | done | omega))); intro D9 T9 L9 t9 u9 v9 vs9 n9 h9 tk9 hi9 F9 N9; (try dsimp only); (try k_fold))))
local macro_rules | `(tactic| walk_at "call ref") => `(tactic| (k_here; (with_reducible show wpAny _ _ (PySem.call (Value.ref 344) [Value.ref _, Value.ref _]) _ _ _); k_dflt (refine' use (c_next _ _ _ _ _ _ _ _ _ _ _ _ _ _ ?hi ?hl ?hm ?hx) ?k1 ?k2 ?k3 ?k4 ?k5 ?kK ?kd ?ku ?_; (case k1 => k_asm); (case k2 => k_asm); (case k3 => k_asm); (case k4 => k_asm); (case k5 => k_asm); (case kK => first | exact rfl | assumption); (case kd => first | ((with_reducible refine' room_dp ?rdh ?rdk); (case rdh => with_reducible assumption); (case rdk => decide)) | ktr_room); (case ku => first | ((with_reducible refine' room_un ?ruh ?ruk); (case ruh => with_reducible assumption); (case ruk => decide)) | ktr_units); (case hi => assumption); (case hx => assumption); (case hl => first | exact szs_len _ _ | omega); (case hm => (law_clear; first | omega | ((try simp only [decide_eq_true_eq, decide_eq_false_iff_not, gj, ij, cj, jj, aj, sj, leapS] at *); first | done | omega))); rotate_right; refine' ⟨?mT, ?_⟩; (case mT => first | k_mem | ((repeat (refine' List.Mem.tail _ ?_)); assumption)); refine' ⟨?mL, ?_⟩; (case mL => k_mem); intro D9 t9 u9 v9 h9 tk9 F9 N9; (try dsimp only); (try k_fold))))
local macro_rules | `(tactic| walk_at "eval Name") => `(tactic| (k_here; k_dflt (first | (name_kind "local"; refine' nameX_L ?F ?v ?_ ?a ?b ?c; (case F => k_asm); (case a => kernel_rfl); (case b => kernel_rfl); (case c => kernel_rfl); (case v => first | (refine' look_of ?gg ?ge; (case gg => (repeat (first | (with_reducible exact guess_hit_l) | (with_reducible apply guess_miss_l) | (with_reducible exact guess_hit_if) | ((with_reducible show Guess (@ite _ _ _ _ _) _); (with_reducible apply guess_miss_if))))); (case ge => kernel_rfl)) | exact rfl)) | (name_kind "globalImplicit"; refine' nameX_K ?F ?X ?T ?e ?_ ?a ?b ?c; (case F => k_asm); (case X => k_asm); (case T => k_asm); (case e => with_reducible (first | exact gn_law_date _ | exact gn_law_next _ | exact gn_to_jd_armenian _ | exact gn_law_jd _ | exact gn_month_length_armenian _ | exact gn_from_gregorian_armenian _ | exact gn_from_julian _ | exact gn_from_jd_armenian _ | exact gn_leap_armenian _ | exact gn_to_gregorian_armenian _ | exact gn_to_julian _)); (case a => kernel_rfl); (case b => kernel_rfl); (case c => kernel_rfl)) | (name_kind "globalImplicit"; refine' nameX_B ?F ?X ?T ?e ?v ?n ?_ ?a ?b ?c; (case F => k_asm); (case X => k_asm); (case T => k_asm); (case e => with_reducible (first | exact gb_ValueError _)); (case v => with_reducible (first | exact bb_ValueError)); (case a => kernel_rfl); (case b => kernel_rfl); (case n => decide); (case c => kernel_rfl)))))
set_option maxRecDepth 100000 in
set_option maxHeartbeats 8000000 in
theorem c_mid_sar (day : Int) (R La : Addr) (t z1 z2 z3 u1 u2 u3 v1 v2 v3 z9 : Tok) (hd : 2117211 ≤ day ∧ day < 2117212) :
    Claim 365 [.int day t, .str (Str.ofString "sarkawag") z9, .int 2117211 z1, .int 2117212 z2, .int 533 z3, .ref 282, .ref R, .ref La] 9 (WithT R (tup3 (romY day) u1 (romM day) u2 (romD day) u3) (WithT La (tup3 (latY day) v1 (latM day) v2 (latD day) v3) (RetV fun _ => .bool true))) := by
  refine gate_out ?_
  simp (disch := (k_dflt (
  intro prog w p loose mean mg mb dp un gd cn cs a ccd cl outer A₀ base h₀ L mm news s Q E B F X N T hk hdp hun hret
  obtain ⟨hR, hLa, hret⟩ := hret
  (refine wpAny_call ?_; (k_dflt cell_enter); (try ((rename Fr _ _ _ _ => F8); (first | (have F9 := Fr_as F8 (m' := fun y9 => List.lookup y9 [(Str.ofString "latin", (.ref La : Value)), (Str.ofString "roman", (.ref R : Value)), (Str.ofString "cycle", (.ref 282 : Value)), (Str.ofString "start", (.int 533 z3 : Value)), (Str.ofString "first", (.int 2117212 z2 : Value)), (Str.ofString "edge", (.int 2117211 z1 : Value)), (Str.ofString "method", (.str (Str.ofString "sarkawag") z9 : Value)), (Str.ofString "day", (.int day t : Value))]) rfl) | (have F9 := Fr_as F8 (m' := fun y9 => List.lookup y9 [(Str.ofString "day", (.int day t : Value)), (Str.ofString "method", (.str (Str.ofString "sarkawag") z9 : Value)), (Str.ofString "edge", (.int 2117211 z1 : Value)), (Str.ofString "first", (.int 2117212 z2 : Value)), (Str.ofString "start", (.int 533 z3 : Value)), (Str.ofString "cycle", (.ref 282 : Value)), (Str.ofString "roman", (.ref R : Value)), (Str.ofString "latin", (.ref La : Value))]) rfl)); clear F8));  k_steps; all_goals (first | (((first | (with_reducible refine' hret 0 ?_ ?_ ?cbF ?cbN) | (with_reducible refine' hret _ ?_ ?_ ?cbF ?cbN))); (case cbF => k_asm); (case cbN => first | (with_reducible assumption) | (refine' cb_drop ?cbM ?cbS; (case cbM => assumption); (case cbS => (first | (intro p9 hp9; (repeat (with_reducible refine List.mem_cons_of_mem _ ?_)); exact hp9) | kcj_all))))) | cb_end hret))))) only [↓gate_true]
end
section
local macro_rules | `(tactic| walk_at "pad") => `(tactic| fail)
local macro_rules | `(tactic| walk_at "call ref") => `(tactic| (k_here; (with_reducible show wpAny _ _ (PySem.call (Value.ref 221) [Value.int _ _]) _ _ _); k_dflt (refine' use (c_leap_arm _ _) ?k1 ?k2 ?k3 ?k4 ?k5 ?kK ?kd ?ku ?_; (case k1 => k_asm); (case k2 => k_asm); (case k3 => k_asm); (case k4 => k_asm); (case k5 => k_asm); (case kK => first | exact rfl | assumption); (case kd => first | ((with_reducible refine' room_dp ?rdh ?rdk); (case rdh => with_reducible assumption); (case rdk => decide)) | ktr_room); (case ku => first | ((with_reducible refine' room_un ?ruh ?ruk); (case ruh => with_reducible assumption); (case ruk => decide)) | ktr_units); intro t9 h9 tk9 F9 N9; (try dsimp only); (try k_fold))))
local macro_rules | `(tactic| walk_at "call ref") => `(tactic| (k_here; (with_reducible show wpAny _ _ (PySem.call (Value.ref 229) [Value.int _ _, Value.int _ _, Value.int _ _, Value.none]) _ _ _); k_dflt (refine' use (c_tojd_n _ _ _ _ _ _ ?hy ?hm ?hd ?hl) ?k1 ?k2 ?k3 ?k4 ?k5 ?kK ?kd ?ku ?_; (case k1 => k_asm); (case k2 => k_asm); (case k3 => k_asm); (case k4 => k_asm); (case k5 => k_asm); (case kK => first | exact rfl | assumption); (case kd => first | ((with_reducible refine' room_dp ?rdh ?rdk); (case rdh => with_reducible assumption); (case rdk => decide)) | ktr_room); (case ku => first | ((with_reducible refine' room_un ?ruh ?ruk); (case ruh => with_reducible assumption); (case ruk => decide)) | ktr_units); (case hy => (law_clear; first | omega | ((try simp only [decide_eq_true_eq, decide_eq_false_iff_not, gj, ij, cj, jj, aj, sj, leapS] at *); first | done | omega))); (case hm => (law_clear; first | omega | ((try simp only [decide_eq_true_eq, decide_eq_false_iff_not, gj, ij, cj, jj, aj, sj, leapS] at *); first | done | omega))); (case hd => (law_clear; first | omega | ((try simp only [decide_eq_true_eq, decide_eq_false_iff_not, gj, ij, cj, jj, aj, sj, leapS] at *); first | done | omega))); (case hl => (law_clear; first | omega | ((try simp only [decide_eq_true_eq, decide_eq_false_iff_not, gj, ij, cj, jj, aj, sj, leapS] at *); first | done | omega))); intro t9 h9 tk9 F9 N9; (try dsimp only); (try k_fold))))
local macro_rules | `(tactic| walk_at "call ref") => `(tactic| (k_here; (with_reducible show wpAny _ _ (PySem.call (Value.ref 229) [Value.int _ _, Value.int _ _, Value.int _ _, Value.str (Str.ofString "sarkawag") _]) _ _ _); k_dflt (refine' use (c_tojd_s _ _ _ _ _ _ _ ?hy ?hm ?hd ?hl) ?k1 ?k2 ?k3 ?k4 ?k5 ?kK ?kd ?ku ?_; (case k1 => k_asm); (case k2 => k_asm); (case k3 => k_asm); (case k4 => k_asm); (case k5 => k_asm); (case kK => first | exact rfl | assumption); (case kd => first | ((with_reducible refine' room_dp ?rdh ?rdk); (case rdh => with_reducible assumption); (case rdk => decide)) | ktr_room); (case ku => first | ((with_reducible refine' room_un ?ruh ?ruk); (case ruh => with_reducible assumption); (case ruk => decide)) | ktr_units); (case hy => (law_clear; first | omega | ((try simp only [decide_eq_true_eq, decide_eq_false_iff_not, gj, ij, cj, jj, aj, sj, leapS] at *); first | done | omega))); (case hm => (law_clear; first | omega | ((try simp only [decide_eq_true_eq, decide_eq_false_iff_not, gj, ij, cj, jj, aj, sj, leapS] at *); first | done | omega))); (case hd => (law_clear; first | omega | ((try simp only [decide_eq_true_eq, decide_eq_false_iff_not, gj, ij, cj, jj, aj, sj, leapS] at *); first | done | omega))); (case hl => (law_clear; first | omega | ((try simp only [decide_eq_true_eq, decide_eq_false_iff_not, gj, ij, cj, jj, aj, sj, leapS] at *); first | done | omega))); intro t9 h9 tk9 F9 N9; (try dsimp only); (try k_fold))))
local macro_rules | `(tactic| walk_at "call ref") => `(tactic| (k_here; (with_reducible show wpAny _ _ (PySem.call (Value.ref 229) [Value.int (armY _) _, Value.int (armM _) _, Value.int (armD _) _, Value.none]) _ _ _); k_dflt (refine' use (c_tojd_arm_at _ _ _ _ ?hd) ?k1 ?k2 ?k3 ?k4 ?k5 ?kK ?kd ?ku ?_; (case k1 => k_asm); (case k2 => k_asm); (case k3 => k_asm); (case k4 => k_asm); (case k5 => k_asm); (case kK => first | exact rfl | assumption); (case kd => first | ((with_reducible refine' room_dp ?rdh ?rdk); (case rdh => with_reducible assumption); (case rdk => decide)) | ktr_room); (case ku => first | ((with_reducible refine' room_un ?ruh ?ruk); (case ruh => with_reducible assumption); (case ruk => decide)) | ktr_units); (case hd => (law_clear; first | omega | ((try simp only [decide_eq_true_eq, decide_eq_false_iff_not, gj, ij, cj, jj, aj, sj, leapS] at *); first | done | omega))); intro t9 h9 tk9 F9 N9; (try dsimp only); (try k_fold))))
local macro_rules | `(tactic| walk_at "call ref") => `(tactic| (k_here; (with_reducible show wpAny _ _ (PySem.call (Value.ref 229) [Value.int (sarY _) _, Value.int (sarM _) _, Value.int (sarD _) _, Value.str (Str.ofString "sarkawag") _]) _ _ _); k_dflt (refine' use (c_tojd_sar_at _ _ _ _ _ ?hd) ?k1 ?k2 ?k3 ?k4 ?k5 ?kK ?kd ?ku ?_; (case k1 => k_asm); (case k2 => k_asm); (case k3 => k_asm); (case k4 => k_asm); (case k5 => k_asm); (case kK => first | exact rfl | assumption); (case kd => first | ((with_reducible refine' room_dp ?rdh ?rdk); (case rdh => with_reducible assumption); (case rdk => decide)) | ktr_room); (case ku => first | ((with_reducible refine' room_un ?ruh ?ruk); (case ruh => with_reducible assumption); (case ruk => decide)) | ktr_units); (case hd => (law_clear; first | omega | ((try simp only [decide_eq_true_eq, decide_eq_false_iff_not, gj, ij, cj, jj, aj, sj, leapS] at *); first | done | omega))); intro t9 h9 tk9 F9 N9; (try dsimp only); (try k_fold))))
local macro_rules | `(tactic| walk_at "call ref") => `(tactic| (k_here; (with_reducible show wpAny _ _ (PySem.call (Value.ref 245) [Value.int (armY _) _, Value.int (armM _) _, Value.int (armD _) _, Value.none]) _ _ _); k_dflt (refine' use (c_tojul_arm _ _ _ _ ?hd) ?k1 ?k2 ?k3 ?k4 ?k5 ?kK ?kd ?ku ?_; (case k1 => k_asm); (case k2 => k_asm); (case k3 => k_asm); (case k4 => k_asm); (case k5 => k_asm); (case kK => first | exact rfl | assumption); (case kd => first | ((with_reducible refine' room_dp ?rdh ?rdk); (case rdh => with_reducible assumption); (case rdk => decide)) | ktr_room); (case ku => first | ((with_reducible refine' room_un ?ruh ?ruk); (case ruh => with_reducible assumption); (case ruk => decide)) | ktr_units); (case hd => (law_clear; first | omega | ((try simp only [decide_eq_true_eq, decide_eq_false_iff_not, gj, ij, cj, jj, aj, sj, leapS] at *); first | done | omega))); intro D9 t9 u9 v9 h9 tk9 F9 N9; (try dsimp only); (try k_fold))))
local macro_rules | `(tactic| walk_at "call ref") => `(tactic| (k_here; (with_reducible show wpAny _ _ (PySem.call (Value.ref 253) [Value.int (latY _) _, Value.int (latM _) _, Value.int (latD _) _, Value.none]) _ _ _); k_dflt (refine' use (c_fromjul_arm _ _ _ _ ?hd) ?k1 ?k2 ?k3 ?k4 ?k5 ?kK ?kd ?ku ?_; (case k1 => k_asm); (case k2 => k_asm); (case k3 => k_asm); (case k4 => k_asm); (case k5 => k_asm); (case kK => first | exact rfl | assumption); (case kd => first | ((with_reducible refine' room_dp ?rdh ?rdk); (case rdh => with_reducible assumption); (case rdk => decide)) | ktr_room); (case ku => first | ((with_reducible refine' room_un ?ruh ?ruk); (case ruh => with_reducible assumption); (case ruk => decide)) | ktr_units); (case hd => (law_clear; first | omega | ((try simp only [decide_eq_true_eq, decide_eq_false_iff_not, gj, ij, cj, jj, aj, sj, leapS] at *); first | done | omega))); intro D9 t9 u9 v9 h9 tk9 F9 N9; (try dsimp only); (try k_fold))))
local macro_rules | `(tactic| walk_at "call ref") => `(tactic| (k_here; (with_reducible show wpAny _ _ (PySem.call (Value.ref 261) [Value.int (armY _) _, Value.int (armM _) _, Value.int (armD _) _, Value.none]) _ _ _); k_dflt (refine' use (c_togreg_arm _ _ _ _ ?hd) ?k1 ?k2 ?k3 ?k4 ?k5 ?kK ?kd ?ku ?_; (case k1 => k_asm); (case k2 => k_asm); (case k3 => k_asm); (case k4 => k_asm); (case k5 => k_asm); (case kK => first | exact rfl | assumption); (case kd => first | ((with_reducible refine' room_dp ?rdh ?rdk); (case rdh => with_reducible assumption); (case rdk => decide)) | ktr_room); (case ku => first | ((with_reducible refine' room_un ?ruh ?ruk); (case ruh => with_reducible assumption); (case ruk => decide)) | ktr_units); (case hd => (law_clear; first | omega | ((try simp only [decide_eq_true_eq, decide_eq_false_iff_not, gj, ij, cj, jj, aj, sj, leapS] at *); first | done | omega))); intro D9 t9 u9 v9 h9 tk9 F9 N9; (try dsimp only); (try k_fold))))
local macro_rules | `(tactic| walk_at "call ref") => `(tactic| (k_here; (with_reducible show wpAny _ _ (PySem.call (Value.ref 269) [Value.int (romY _) _, Value.int (romM _) _, Value.int (romD _) _, Value.none]) _ _ _); k_dflt (refine' use (c_fromgreg_arm _ _ _ _ ?hd) ?k1 ?k2 ?k3 ?k4 ?k5 ?kK ?kd ?ku ?_; (case k1 => k_asm); (case k2 => k_asm); (case k3 => k_asm); (case k4 => k_asm); (case k5 => k_asm); (case kK => first | exact rfl | assumption); (case kd => first | ((with_reducible refine' room_dp ?rdh ?rdk); (case rdh => with_reducible assumption); (case rdk => decide)) | ktr_room); (case ku => first | ((with_reducible refine' room_un ?ruh ?ruk); (case ruh => with_reducible assumption); (case ruk => decide)) | ktr_units); (case hd => (law_clear; first | omega | ((try simp only [decide_eq_true_eq, decide_eq_false_iff_not, gj, ij, cj, jj, aj, sj, leapS] at *); first | done | omega))); intro D9 t9 u9 v9 h9 tk9 F9 N9; (try dsimp only); (try k_fold))))
local macro_rules | `(tactic| walk_at "call ref") => `(tactic| (k_here; (with_reducible show wpAny _ _ (PySem.call (Value.ref 245) [Value.int (sarY _) _, Value.int (sarM _) _, Value.int (sarD _) _, Value.str (Str.ofString "sarkawag") _]) _ _ _); k_dflt (refine' use (c_tojul_sar _ _ _ _ _ ?hd) ?k1 ?k2 ?k3 ?k4 ?k5 ?kK ?kd ?ku ?_; (case k1 => k_asm); (case k2 => k_asm); (case k3 => k_asm); (case k4 => k_asm); (case k5 => k_asm); (case kK => first | exact rfl | assumption); (case kd => first | ((with_reducible refine' room_dp ?rdh ?rdk); (case rdh => with_reducible assumption); (case rdk => decide)) | ktr_room); (case ku => first | ((with_reducible refine' room_un ?ruh ?ruk); (case ruh => with_reducible assumption); (case ruk => decide)) | ktr_units); (case hd => (law_clear; first | omega | ((try simp only [decide_eq_true_eq, decide_eq_false_iff_not, gj, ij, cj, jj, aj, sj, leapS] at *); first | done | omega))); intro D9 t9 u9 v9 h9 tk9 F9 N9; (try dsimp only); (try k_fold))))
local macro_rules | `(tactic| walk_at "call ref") => `(tactic| (k_here; (with_reducible show wpAny _ _ (PySem.call (Value.ref 253) [Value.int (latY _) _, Value.int (latM _) _, Value.int (latD _) _, Value.str (Str.ofString "sarkawag") _]) _ _ _); k_dflt (refine' use (c_fromjul_sar _ _ _ _ _ ?hd) ?k1 ?k2 ?k3 ?k4 ?k5 ?kK ?kd ?ku ?_; (case k1 => k_asm); (case k2 => k_asm); (case k3 => k_asm); (case k4 => k_asm); (case k5 => k_asm); (case kK => first | exact rfl | assumption); (case kd => first | ((with_reducible refine' room_dp ?rdh ?rdk); (case rdh => with_reducible assumption); (case rdk => decide)) | ktr_room); (case ku => first | ((with_reducible refine' room_un ?ruh ?ruk); (case ruh => with_reducible assumption); (case ruk => decide)) | ktr_units); (case hd => (law_clear; first | omega | ((try simp only [decide_eq_true_eq, decide_eq_false_iff_not, gj, ij, cj, jj, aj, sj, leapS] at *); first | done | omega))); intro D9 t9 u9 v9 h9 tk9 F9 N9; (try dsimp only); (try k_fold))))
local macro_rules | `(tactic| walk_at "call ref") => `(tactic| (k_here; (with_reducible show wpAny _ _ (PySem.call (Value.ref 261) [Value.int (sarY _) _, Value.int (sarM _) _, Value.int (sarD _) _, Value.str (Str.ofString "sarkawag") _]) _ _ _); k_dflt (refine' use (c_togreg_sar _ _ _ _ _ ?hd) ?k1 ?k2 ?k3 ?k4 ?k5 ?kK ?kd ?ku ?_; (case k1 => k_asm); (case k2 => k_asm); (case k3 => k_asm); (case k4 => k_asm); (case k5 => k_asm); (case kK => first | exact rfl | assumption); (case kd => first | ((with_reducible refine' room_dp ?rdh ?rdk); (case rdh => with_reducible assumption); (case rdk => decide)) | ktr_room); (case ku => first | ((with_reducible refine' room_un ?ruh ?ruk); (case ruh => with_reducible assumption); (case ruk => decide)) | ktr_units); (case hd => (law_clear; first | omega | ((try simp only [decide_eq_true_eq, decide_eq_false_iff_not, gj, ij, cj, jj, aj, sj, leapS] at *); first | done | omega))); intro D9 t9 u9 v9 h9 tk9 F9 N9; (try dsimp only); (try k_fold))))
local macro_rules | `(tactic| walk_at "call ref") => `(tactic| (k_here; (with_reducible show wpAny _ _ (PySem.call (Value.ref 269) [Value.int (romY _) _, Value.int (romM _) _, Value.int (romD _) _, Value.str (Str.ofString "sarkawag") _]) _ _ _); k_dflt (refine' use (c_fromgreg_sar _ _ _ _ _ ?hd) ?k1 ?k2 ?k3 ?k4 ?k5 ?kK ?kd ?ku ?_; (case k1 => k_asm); (case k2 => k_asm); (case k3 => k_asm); (case k4 => k_asm); (case k5 => k_asm); (case kK => first | exact rfl | assumption); (case kd => first | ((with_reducible refine' room_dp ?rdh ?rdk); (case rdh => with_reducible assumption); (case rdk => decide)) | ktr_room); (case ku => first | ((with_reducible refine' room_un ?ruh ?ruk); (case ruh => with_reducible assumption); (case ruk => decide)) | ktr_units); (case hd => (law_clear; first | omega | ((try simp only [decide_eq_true_eq, decide_eq_false_iff_not, gj, ij, cj, jj, aj, sj, leapS] at *); first | done | omega))); intro D9 t9 u9 v9 h9 tk9 F9 N9; (try dsimp only); (try k_fold))))
local macro_rules | `(tactic| walk_at "call ref") => `(tactic| (k_here; (with_reducible show wpAny _ _ (PySem.call (Value.ref 277) [Value.int _ _, Value.int _ _, Value.none]) _ _ _); k_dflt (refine' use (c_ml_arm _ _ _ _ ?hm) ?k1 ?k2 ?k3 ?k4 ?k5 ?kK ?kd ?ku ?_; (case k1 => k_asm); (case k2 => k_asm); (case k3 => k_asm); (case k4 => k_asm); (case k5 => k_asm); (case kK => first | exact rfl | assumption); (case kd => first | ((with_reducible refine' room_dp ?rdh ?rdk); (case rdh => with_reducible assumption); (case rdk => decide)) | ktr_room); (case ku => first | ((with_reducible refine' room_un ?ruh ?ruk); (case ruh => with_reducible assumption); (case ruk => decide)) | ktr_units); (case hm => (law_clear; first | omega | ((try simp only [decide_eq_true_eq, decide_eq_false_iff_not, gj, ij, cj, jj, aj, sj, leapS] at *); first | done | omega))); intro t9 h9 tk9 F9 N9; (try dsimp only); (try k_fold))))
local macro_rules | `(tactic| walk_at "call ref") => `(tactic| (k_here; (with_reducible show wpAny _ _ (PySem.call (Value.ref 277) [Value.int _ _, Value.int _ _, Value.str (Str.ofString "sarkawag") _]) _ _ _); k_dflt (refine' use (c_ml_sar _ _ _ _ _ ?hm) ?k1 ?k2 ?k3 ?k4 ?k5 ?kK ?kd ?ku ?_; (case k1 => k_asm); (case k2 => k_asm); (case k3 => k_asm); (case k4 => k_asm); (case k5 => k_asm); (case kK => first | exact rfl | assumption); (case kd => first | ((with_reducible refine' room_dp ?rdh ?rdk); (case rdh => with_reducible assumption); (case rdk => decide)) | ktr_room); (case ku => first | ((with_reducible refine' room_un ?ruh ?ruk); (case ruh => with_reducible assumption); (case ruk => decide)) | ktr_units); (case hm => (law_clear; first | omega | ((try simp only [decide_eq_true_eq, decide_eq_false_iff_not, gj, ij, cj, jj, aj, sj, leapS] at *); first | done | omega))); intro t9 h9 tk9 F9 N9; (try dsimp only); (try k_fold))))
local macro_rules | `(tactic| walk_at "call ref") => `(tactic| (k_here; (with_reducible show wpAny _ _ (PySem.call (Value.ref 297) [Value.int _ _]) _ _ _); k_dflt (refine' use (c_jd _ _ ?hd) ?k1 ?k2 ?k3 ?k4 ?k5 ?kK ?kd ?ku ?_; (case k1 => k_asm); (case k2 => k_asm); (case k3 => k_asm); (case k4 => k_asm); (case k5 => k_asm); (case kK => first | exact rfl | assumption); (case kd => first | ((with_reducible refine' room_dp ?rdh ?rdk); (case rdh => with_reducible assumption); (case rdk => decide)) | ktr_room); (case ku => first | ((with_reducible refine' room_un ?ruh ?ruk); (case ruh => with_reducible assumption); (case ruk => decide)) | ktr_units); (case hd => (law_clear; first | omega | ((try simp only [decide_eq_true_eq, decide_eq_false_iff_not, gj, ij, cj, jj, aj, sj, leapS] at *); first | done | omega))); intro t9 h9 tk9 F9 N9; (try dsimp only); (try k_fold))))
local macro_rules | `(tactic| walk_at "call ref") => `(tactic| (k_here; (with_reducible show wpAny _ _ (PySem.call (Value.ref 318) [Value.int _ _, Value.int 1948440 _, Value.int 1 _, Value.ref 280, Value.int 0 _]) _ _ _); k_dflt (refine' use (c_date_isl _ _ _ _ _ ?hd) ?k1 ?k2 ?k3 ?k4 ?k5 ?kK ?kd ?ku ?_; (case k1 => k_asm); (case k2 => k_asm); (case k3 => k_asm); (case k4 => k_asm); (case k5 => k_asm); (case kK => first | exact rfl | assumption); (case kd => first | ((with_reducible refine' room_dp ?rdh ?rdk); (case rdh => with_reducible assumption); (case rdk => decide)) | ktr_room); (case ku => first | ((with_reducible refine' room_un ?ruh ?ruk); (case ruh => with_reducible assumption); (case ruk => decide)) | ktr_units); (case hd => (law_clear; first | omega | ((try simp only [decide_eq_true_eq, decide_eq_false_iff_not, gj, ij, cj, jj, aj, sj, leapS] at *); first | done | omega))); intro D9 T9 L9 t9 u9 v9 vs9 n9 h9 tk9 hi9 F9 N9; (try dsimp only); (try k_fold))))
local macro_rules | `(tactic| walk_at "call ref") => `(tactic| (k_here; (with_reducible show wpAny _ _ (PySem.call (Value.ref 318) [Value.int _ _, Value.int 1825030 _, Value.int 1 _, Value.ref 281, Value.int 1 _]) _ _ _); k_dflt (refine' use (c_date_cop _ _ _ _ _ ?hd) ?k1 ?k2 ?k3 ?k4 ?k5 ?kK ?kd ?ku ?_; (case k1 => k_asm); (case k2 => k_asm); (case k3 => k_asm); (case k4 => k_asm); (case k5 => k_asm); (case kK => first | exact rfl | assumption); (case kd => first | ((with_reducible refine' room_dp ?rdh ?rdk); (case rdh => with_reducible assumption); (case rdk => decide)) | ktr_room); (case ku => first | ((with_reducible refine' room_un ?ruh ?ruk); (case ruh => with_reducible assumption); (case ruk => decide)) | ktr_units); (case hd => (law_clear; first | omega | ((try simp only [decide_eq_true_eq, decide_eq_false_iff_not, gj, ij, cj, jj, aj, sj, leapS] at *); first | done | omega))); intro D9 T9 L9 t9 u9 v9 vs9 n9 h9 tk9 hi9 F9 N9; (try dsimp only); (try k_fold))))
local macro_rules | `(tactic| walk_at "call ref") => `(tactic| (k_here; (with_reducible show wpAny _ _ (PySem.call (Value.ref 318) [Value.int _ _, Value.int 1721424 _, Value.int 1 _, Value.ref 282, Value.int 2 _]) _ _ _); k_dflt (refine' use (c_date_lat _ _ _ _ _ ?hd) ?k1 ?k2 ?k3 ?k4 ?k5 ?kK ?kd ?ku ?_; (case k1 => k_asm); (case k2 => k_asm); (case k3 => k_asm); (case k4 => k_asm); (case k5 => k_asm); (case kK => first | exact rfl | assumption); (case kd => first | ((with_reducible refine' room_dp ?rdh ?rdk); (case rdh => with_reducible assumption); (case rdk => decide)) | ktr_room); (case ku => first | ((with_reducible refine' room_un ?ruh ?ruk); (case ruh => with_reducible assumption); (case ruk => decide)) | ktr_units); (case hd => (law_clear; first | omega | ((try simp only [decide_eq_true_eq, decide_eq_false_iff_not, gj, ij, cj, jj, aj, sj, leapS] at *); first | done | omega))); intro D9 T9 L9 t9 u9 v9 vs9 n9 h9 tk9 hi9 F9 N9; (try dsimp only); (try k_fold))))
local macro_rules | `(tactic| walk_at "call ref") => `(tactic| (k_here; (with_reducible show wpAny _ _ (PySem.call (Value.ref 318) [Value.int _ _, Value.int 1922868 _, Value.int 1 _, Value.ref 283, Value.int 1 _]) _ _ _); k_dflt (refine' use (c_date_arm _ _ _ _ _ ?hd) ?k1 ?k2 ?k3 ?k4 ?k5 ?kK ?kd ?ku ?_; (case k1 => k_asm); (case k2 => k_asm); (case k3 => k_asm); (case k4 => k_asm); (case k5 => k_asm); (case kK => first | exact rfl | assumption); (case kd => first | ((with_reducible refine' room_dp ?rdh ?rdk); (case rdh => with_reducible assumption); (case rdk => decide)) | ktr_room); (case ku => first | ((with_reducible refine' room_un ?ruh ?ruk); (case ruh => with_reducible assumption); (case ruk => decide)) | ktr_units); (case hd => (law_clear; first | omega | ((try simp only [decide_eq_true_eq, decide_eq_false_iff_not, gj, ij, cj, jj, aj, sj, leapS] at *); first | done | omega))); intro D9 T9 L9 t9 u9 v9 vs9 n9 h9 tk9 hi9 F9 N9; (try dsimp only); (try k_fold))))
local macro_rules | `(tactic| walk_at "call ref") => `(tactic| (k_here; (with_reducible show wpAny _ _ (PySem.call (Value.ref 318) [Value.int _ _, Value.int 2117212 _, Value.int 533 _, Value.ref 282, Value.int 1 _]) _ _ _); k_dflt (refine' use (c_date_sar _ _ _ _ _ ?hd) ?k1 ?k2 ?k3 ?k4 ?k5 ?kK ?kd ?ku ?_; (case k1 => k_asm); (case k2 => k_asm); (case k3 => k_asm); (case k4 => k_asm); (case k5 => k_asm); (case kK => first | exact rfl | assumption); (case kd => first | ((with_reducible refine' room_dp ?rdh ?rdk); (case rdh => with_reducible assumption); (case rdk => decide)) | ktr_room); (case ku => first | ((with_reducible refine' room_un ?ruh ?ruk); (case ruh => with_reducible assumption); (case ruk => decide)) | ktr_units); (case hd => (law_clear; first | omega | ((try simp only [decide_eq_true_eq, decide_eq_false_iff_not, gj, ij, cj, jj, aj, sj, leapS] at *); first | done | omega))); intro D9 T9 L9 t9 u9 v9 vs9 n9 h9 tk9 hi9 F9 N9; (try dsimp only); (try k_fold))))
local macro_rules | `(tactic| walk_at "call ref") => `(tactic| (k_here; (with_reducible show wpAny _ _ (PySem.call (Value.ref 344) [Value.ref _, Value.ref _]) _ _ _); k_dflt (refine' use (c_next _ _ _ _ _ _ _ _ _ _ _ _ _ _ ?hi ?hl ?hm ?hx) ?k1 ?k2 ?k3 ?k4 ?k5 ?kK ?kd ?ku ?_; (case k1 => k_asm); (case k2 => k_asm); (case k3 => k_asm); (case k4 => k_asm); (case k5 => k_asm); (case kK => first | exact rfl | assumption); (case kd => first | ((with_reducible refine' room_dp ?rdh ?rdk); (case rdh => with_reducible assumption); (case rdk => decide)) | ktr_room); (case ku => first | ((with_reducible refine' room_un ?ruh ?ruk); (case ruh => with_reducible assumption); (case ruk => decide)) | ktr_units); (case hi => assumption); (case hx => assumption); (case hl => first | exact szs_len _ _ | omega); (case hm => (law_clear; first | omega | ((try simp only [decide_eq_true_eq, decide_eq_false_iff_not, gj, ij, cj, jj, aj, sj, leapS] at *); first | done | omega))); rotate_right; refine' ⟨?mT, ?_⟩; (case mT => first | k_mem | ((repeat (refine' List.Mem.tail _ ?_)); assumption)); refine' ⟨?mL, ?_⟩; (case mL => k_mem); intro D9 t9 u9 v9 h9 tk9 F9 N9; (try dsimp only); (try k_fold))))
local macro_rules | `(tactic| walk_at "eval Name") => `(tactic| (k_here; k_dflt (first | (name_kind "local"; refine' nameX_L ?F ?v ?_ ?a ?b ?c; (case F => k_asm); (case a => kernel_rfl); (case b => kernel_rfl); (case c => kernel_rfl); (case v => first | (refine' look_of ?gg ?ge; (case gg => (repeat (first | (with_reducible exact guess_hit_l) | (with_reducible apply guess_miss_l) | (with_reducible exact guess_hit_if) | ((with_reducible show Guess (@ite _ _ _ _ _) _); (with_reducible apply guess_miss_if))))); (case ge => kernel_rfl)) | exact rfl)) | (name_kind "globalImplicit"; refine' nameX_K ?F ?X ?T ?e ?_ ?a ?b ?c; (case F => k_asm); (case X => k_asm); (case T => k_asm); (case e => with_reducible (first | exact gn_law_date _ | exact gn_law_next _ | exact gn_to_jd_armenian _ | exact gn_law_jd _ | exact gn_month_length_armenian _ | exact gn_from_gregorian_armenian _ | exact gn_from_julian _ | exact gn_from_jd_armenian _ | exact gn_leap_armenian _ | exact gn_to_gregorian_armenian _ | exact gn_to_julian _)); (case a => kernel_rfl); (case b => kernel_rfl); (case c => kernel_rfl)) | (name_kind "globalImplicit"; refine' nameX_B ?F ?X ?T ?e ?v ?n ?_ ?a ?b ?c; (case F => k_asm); (case X => k_asm); (case T => k_asm); (case e => with_reducible (first | exact gb_ValueError _)); (case v => with_reducible (first | exact bb_ValueError)); (case a => kernel_rfl); (case b => kernel_rfl); (case n => decide); (case c => kernel_rfl)))))
local macro_rules | `(tactic| walk_at "eval Name") => `(tactic| (k_here; k_dflt (first | (name_kind "local"; refine' nameX_L ?F ?v ?_ ?a ?b ?c; (case F => k_asm); (case a => kernel_rfl); (case b => kernel_rfl); (case c => kernel_rfl); (case v => first | (refine' look_of ?gg ?ge; (case gg => (repeat (first | (with_reducible exact guess_hit_l) | (with_reducible apply guess_miss_l) | (with_reducible exact guess_hit_if) | ((with_reducible show Guess (@ite _ _ _ _ _) _); (with_reducible apply guess_miss_if))))); (case ge => kernel_rfl)) | exact rfl)) | (name_kind "globalImplicit"; refine' nameX_K ?F ?X ?T ?e ?_ ?a ?b ?c; (case F => k_asm); (case X => k_asm); (case T => k_asm); (case e => with_reducible (first | exact gn_EPOCH_armenian _ | exact gn_trunc _ | exact gn_EPOCH_SARKAWAG _)); (case a => kernel_rfl); (case b => kernel_rfl); (case c => kernel_rfl)) | (name_kind "globalImplicit"; refine' nameX_B ?F ?X ?T ?e ?v ?n ?_ ?a ?b ?c; (case F => k_asm); (case X => k_asm); (case T => k_asm); (case e => with_reducible (first | exact gb_ValueError _)); (case v => with_reducible (first | exact bb_ValueError)); (case a => kernel_rfl); (case b => kernel_rfl); (case n => decide); (case c => kernel_rfl)))))
local macro_rules | `(tactic| walk_at "call ref") => `(tactic| (k_here; (with_reducible show wpAny _ _ (PySem.call (Value.ref 237) _) _ _ _); refine wpAny_call ?_; k_dflt (refine' code_defS ?k1 ?k2 ?k3 ?k4 ?k5 ?XB ?TB ?D ?T0 ?kA ?k6 ?k7 ?k8 ?k9 ?kB ?_ ?cK ?c2 ?c3 ?c4 ?c5; (case kA => exact rfl); (case k2 => k_asm); (case k1 => k_asm); (case XB => assumption); (case TB => assumption); (case D => assumption); (case T0 => first | assumption | exact KtsTurn.refl); (case k3 => k_asm); (case k4 => k_asm); (case k5 => k_asm); (case k6 => k_is); (case k7 => k_is); (case k8 => ktr_room); (case k9 => first | exact binds_K (by k_in) rfl (by k_is) rfl rfl rfl | exact BindsTo.of_eq rfl); (case kB => exact locs rfl); (case cK => exact rfl); (case c2 => exact rfl); (case c3 => exact rfl); (case c4 => exact rfl); (case c5 => decide); k_whole; intro g' L' h' FG' F' N' B' X' T' D'; (try dsimp only); (try k_lift B'); (try k_fold))))
set_option maxRecDepth 100000 in
set_option maxHeartbeats 8000000 in
theorem c_lo_sar (day : Int) (R La : Addr) (t z1 z2 z3 u1 u2 u3 v1 v2 v3 z9 : Tok) (hd : -9000000000 < day ∧ day < 2117211) :
    Claim0 365 [.int day t, .str (Str.ofString "sarkawag") z9, .int 2117211 z1, .int 2117212 z2, .int 533 z3, .ref 282, .ref R, .ref La] 9 (WithT R (tup3 (romY day) u1 (romM day) u2 (romD day) u3) (WithT La (tup3 (latY day) v1 (latM day) v2 (latD day) v3) (RetV fun _ => .bool true))) := by
  refine gate_out ?_
  simp (disch := (k_dflt (
  intro prog w p loose mean mg mb dp un gd cn cs a ccd A₀ base h₀ L mm news s Q E B F X N T XB TB hk hdp hun hret
  obtain ⟨hR, hLa, hret⟩ := hret
  (refine wpAny_call ?_; k_dflt (refine' code_defS0 ?k1 ?k2 ?k3 ?k4 ?k5 ?kA ?k6 ?k7 ?k8 ?k9 ?kB ?_ ?cK ?c2 ?c3 ?c4 ?c5; (case kA => exact rfl); (case k2 => k_asm); (case k1 => k_asm); (case k3 => k_asm); (case k4 => k_asm); (case k5 => k_asm); (case k6 => k_is); (case k7 => k_is); (case k8 => ktr_room); (case k9 => exact BindsTo.of_eq rfl); (case kB => exact locs rfl); (case cK => assumption); (case c2 => exact rfl); (case c3 => exact rfl); (case c4 => exact rfl); (case c5 => decide); k_whole; intro g' L' h' FG' F' N' B' X' T' D'; (try dsimp only); (try k_lift B'); (try k_fold)); (try ((rename Fr _ _ _ _ => F8); (first | (have F9 := Fr_as F8 (m' := fun y9 => List.lookup y9 [(Str.ofString "latin", (.ref La : Value)), (Str.ofString "roman", (.ref R : Value)), (Str.ofString "cycle", (.ref 282 : Value)), (Str.ofString "start", (.int 533 z3 : Value)), (Str.ofString "first", (.int 2117212 z2 : Value)), (Str.ofString "edge", (.int 2117211 z1 : Value)), (Str.ofString "method", (.str (Str.ofString "sarkawag") z9 : Value)), (Str.ofString "day", (.int day t : Value))]) rfl) | (have F9 := Fr_as F8 (m' := fun y9 => List.lookup y9 [(Str.ofString "day", (.int day t : Value)), (Str.ofString "method", (.str (Str.ofString "sarkawag") z9 : Value)), (Str.ofString "edge", (.int 2117211 z1 : Value)), (Str.ofString "first", (.int 2117212 z2 : Value)), (Str.ofString "start", (.int 533 z3 : Value)), (Str.ofString "cycle", (.ref 282 : Value)), (Str.ofString "roman", (.ref R : Value)), (Str.ofString "latin", (.ref La : Value))]) rfl)); clear F8));  k_steps; all_goals (first | (((first | (with_reducible refine' hret 0 ?_ ?_ ?cbF ?cbN) | (with_reducible refine' hret _ ?_ ?_ ?cbF ?cbN))); (case cbF => k_asm); (case cbN => first | (with_reducible assumption) | (refine' cb_drop ?cbM ?cbS; (case cbM => assumption); (case cbS => (first | (intro p9 hp9; (repeat (with_reducible refine List.mem_cons_of_mem _ ?_)); exact hp9) | kcj_all))))) | cb_end hret))))) only [↓gate_true]
end
section
local macro_rules | `(tactic| walk_at "call ref") => `(tactic| (k_here; (with_reducible show wpAny _ _ (PySem.call (Value.ref 221) [Value.int _ _]) _ _ _); k_dflt (refine' use (c_leap_arm _ _) ?k1 ?k2 ?k3 ?k4 ?k5 ?kK ?kd ?ku ?_; (case k1 => k_asm); (case k2 => k_asm); (case k3 => k_asm); (case k4 => k_asm); (case k5 => k_asm); (case kK => first | exact rfl | assumption); (case kd => first | ((with_reducible refine' room_dp ?rdh ?rdk); (case rdh => with_reducible assumption); (case rdk => decide)) | ktr_room); (case ku => first | ((with_reducible refine' room_un ?ruh ?ruk); (case ruh => with_reducible assumption); (case ruk => decide)) | ktr_units); intro t9 h9 tk9 F9 N9; (try dsimp only); (try k_fold))))
local macro_rules | `(tactic| walk_at "call ref") => `(tactic| (k_here; (with_reducible show wpAny _ _ (PySem.call (Value.ref 229) [Value.int _ _, Value.int _ _, Value.int _ _, Value.none]) _ _ _); k_dflt (refine' use (c_tojd_n _ _ _ _ _ _ ?hy ?hm ?hd ?hl) ?k1 ?k2 ?k3 ?k4 ?k5 ?kK ?kd ?ku ?_; (case k1 => k_asm); (case k2 => k_asm); (case k3 => k_asm); (case k4 => k_asm); (case k5 => k_asm); (case kK => first | exact rfl | assumption); (case kd => first | ((with_reducible refine' room_dp ?rdh ?rdk); (case rdh => with_reducible assumption); (case rdk => decide)) | ktr_room); (case ku => first | ((with_reducible refine' room_un ?ruh ?ruk); (case ruh => with_reducible assumption); (case ruk => decide)) | ktr_units); (case hy => (law_clear; first | omega | ((try simp only [decide_eq_true_eq, decide_eq_false_iff_not, gj, ij, cj, jj, aj, sj, leapS] at *); first | done | omega))); (case hm => (law_clear; first | omega | ((try simp only [decide_eq_true_eq, decide_eq_false_iff_not, gj, ij, cj, jj, aj, sj, leapS] at *); first | done | omega))); (case hd => (law_clear; first | omega | ((try simp only [decide_eq_true_eq, decide_eq_false_iff_not, gj, ij, cj, jj, aj, sj, leapS] at *); first | done | omega))); (case hl => (law_clear; first | omega | ((try simp only [decide_eq_true_eq, decide_eq_false_iff_not, gj, ij, cj, jj, aj, sj, leapS] at *); first | done | omega))); intro t9 h9 tk9 F9 N9; (try dsimp only); (try k_fold))))
local macro_rules | `(tactic| walk_at "call ref") => `(tactic| (k_here; (with_reducible show wpAny _ _ (PySem.call (Value.ref 229) [Value.int _ _, Value.int _ _, Value.int _ _, Value.str (Str.ofString "sarkawag") _]) _ _ _); k_dflt (refine' use (c_tojd_s _ _ _ _ _ _ _ ?hy ?hm ?hd ?hl) ?k1 ?k2 ?k3 ?k4 ?k5 ?kK ?kd ?ku ?_; (case k1 => k_asm); (case k2 => k_asm); (case k3 => k_asm); (case k4 => k_asm); (case k5 => k_asm); (case kK => first | exact rfl | assumption); (case kd => first | ((with_reducible refine' room_dp ?rdh ?rdk); (case rdh => with_reducible assumption); (case rdk => decide)) | ktr_room); (case ku => first | ((with_reducible refine' room_un ?ruh ?ruk); (case ruh => with_reducible assumption); (case ruk => decide)) | ktr_units); (case hy => (law_clear; first | omega | ((try simp only [decide_eq_true_eq, decide_eq_false_iff_not, gj, ij, cj, jj, aj, sj, leapS] at *); first | done | omega))); (case hm => (law_clear; first | omega | ((try simp only [decide_eq_true_eq, decide_eq_false_iff_not, gj, ij, cj, jj, aj, sj, leapS] at *); first | done | omega))); (case hd => (law_clear; first | omega | ((try simp only [decide_eq_true_eq, decide_eq_false_iff_not, gj, ij, cj, jj, aj, sj, leapS] at *); first | done | omega))); (case hl => (law_clear; first | omega | ((try simp only [decide_eq_true_eq, decide_eq_false_iff_not, gj, ij, cj, jj, aj, sj, leapS] at *); first | done | omega))); intro t9 h9 tk9 F9 N9; (try dsimp only); (try k_fold))))
local macro_rules | `(tactic| walk_at "call ref") => `(tactic| (k_here; (with_reducible show wpAny _ _ (PySem.call (Value.ref 229) [Value.int (armY _) _, Value.int (armM _) _, Value.int (armD _) _, Value.none]) _ _ _); k_dflt (refine' use (c_tojd_arm_at _ _ _ _ ?hd) ?k1 ?k2 ?k3 ?k4 ?k5 ?kK ?kd ?ku ?_; (case k1 => k_asm); (case k2 => k_asm); (case k3 => k_asm); (case k4 => k_asm); (case k5 => k_asm); (case kK => first | exact rfl | assumption); (case kd => first | ((with_reducible refine' room_dp ?rdh ?rdk); (case rdh => with_reducible assumption); (case rdk => decide)) | ktr_room); (case ku => first | ((with_reducible refine' room_un ?ruh ?ruk); (case ruh => with_reducible assumption); (case ruk => decide)) | ktr_units); (case hd => (law_clear; first | omega | ((try simp only [decide_eq_true_eq, decide_eq_false_iff_not, gj, ij, cj, jj, aj, sj, leapS] at *); first | done | omega))); intro t9 h9 tk9 F9 N9; (try dsimp only); (try k_fold))))
local macro_rules | `(tactic| walk_at "call ref") => `(tactic| (k_here; (with_reducible show wpAny _ _ (PySem.call (Value.ref 229) [Value.int (sarY _) _, Value.int (sarM _) _, Value.int (sarD _) _, Value.str (Str.ofString "sarkawag") _]) _ _ _); k_dflt (refine' use (c_tojd_sar_at _ _ _ _ _ ?hd) ?k1 ?k2 ?k3 ?k4 ?k5 ?kK ?kd ?ku ?_; (case k1 => k_asm); (case k2 => k_asm); (case k3 => k_asm); (case k4 => k_asm); (case k5 => k_asm); (case kK => first | exact rfl | assumption); (case kd => first | ((with_reducible refine' room_dp ?rdh ?rdk); (case rdh => with_reducible assumption); (case rdk => decide)) | ktr_room); (case ku => first | ((with_reducible refine' room_un ?ruh ?ruk); (case ruh => with_reducible assumption); (case ruk => decide)) | ktr_units); (case hd => (law_clear; first | omega | ((try simp only [decide_eq_true_eq, decide_eq_false_iff_not, gj, ij, cj, jj, aj, sj, leapS] at *); first | done | omega))); intro t9 h9 tk9 F9 N9; (try dsimp only); (try k_fold))))
local macro_rules | `(tactic| walk_at "call ref") => `(tactic| (k_here; (with_reducible show wpAny _ _ (PySem.call (Value.ref 297) [Value.int _ _]) _ _ _); k_dflt (refine' use (c_jd _ _ ?hd) ?k1 ?k2 ?k3 ?k4 ?k5 ?kK ?kd ?ku ?_; (case k1 => k_asm); (case k2 => k_asm); (case k3 => k_asm); (case k4 => k_asm); (case k5 => k_asm); (case kK => first | exact rfl | assumption); (case kd => first | ((with_reducible refine' room_dp ?rdh ?rdk); (case rdh => with_reducible assumption); (case rdk => decide)) | ktr_room); (case ku => first | ((with_reducible refine' room_un ?ruh ?ruk); (case ruh => with_reducible assumption); (case ruk => decide)) | ktr_units); (case hd => (law_clear; first | omega | ((try simp only [decide_eq_true_eq, decide_eq_false_iff_not, gj, ij, cj, jj, aj, sj, leapS] at *); first | done | omega))); intro t9 h9 tk9 F9 N9; (try dsimp only); (try k_fold))))
local macro_rules | `(tactic| walk_at "call ref") => `(tactic| (k_here; (with_reducible show wpAny _ _ (PySem.call (Value.ref 325) [Value.ref _, Value.int 1922868 _, Value.int 1 _, Value.ref 283]) _ _ _); k_dflt (refine' use (c_count_arm _ _ _ _ _ _ _ _ _ ?hy ?hm ?hd) ?k1 ?k2 ?k3 ?k4 ?k5 ?kK ?kd ?ku ?_; (case k1 => k_asm); (case k2 => k_asm); (case k3 => k_asm); (case k4 => k_asm); (case k5 => k_asm); (case kK => first | exact rfl | assumption); (case kd => first | ((with_reducible refine' room_dp ?rdh ?rdk); (case rdh => with_reducible assumption); (case rdk => decide)) | ktr_room); (case ku => first | ((with_reducible refine' room_un ?ruh ?ruk); (case ruh => with_reducible assumption); (case ruk => decide)) | ktr_units); rotate_right; refine' ⟨?mT, ?_⟩; (case mT => first | k_mem | ((repeat (refine' List.Mem.tail _ ?_)); assumption)); intro t9 h9 tk9 F9 N9; (case hy => (law_clear; first | omega | ((try simp only [decide_eq_true_eq, decide_eq_false_iff_not, gj, ij, cj, jj, aj, sj, leapS] at *); first | done | omega))); (case hm => (law_clear; first | omega | ((try simp only [decide_eq_true_eq, decide_eq_false_iff_not, gj, ij, cj, jj, aj, sj, leapS] at *); first | done | omega))); (case hd => (law_clear; first | omega | ((try simp only [decide_eq_true_eq, decide_eq_false_iff_not, gj, ij, cj, jj, aj, sj, leapS] at *); first | done | omega))); (try dsimp only); (try k_fold))))
local macro_rules | `(tactic| walk_at "call ref") => `(tactic| (k_here; (with_reducible show wpAny _ _ (PySem.call (Value.ref 325) [Value.ref _, Value.int 1922868 _, Value.int 1 _, Value.ref 283]) _ _ _); k_dflt (refine' use (c_countN_arm _ _ _ _ _ _ _ _ _ ?hy ?hn) ?k1 ?k2 ?k3 ?k4 ?k5 ?kK ?kd ?ku ?_; (case k1 => k_asm); (case k2 => k_asm); (case k3 => k_asm); (case k4 => k_asm); (case k5 => k_asm); (case kK => first | exact rfl | assumption); (case kd => first | ((with_reducible refine' room_dp ?rdh ?rdk); (case rdh => with_reducible assumption); (case rdk => decide)) | ktr_room); (case ku => first | ((with_reducible refine' room_un ?ruh ?ruk); (case ruh => with_reducible assumption); (case ruk => decide)) | ktr_units); rotate_right; refine' ⟨?mT, ?_⟩; (case mT => first | k_mem | ((repeat (refine' List.Mem.tail _ ?_)); assumption)); intro t9 h9 tk9 F9 N9; (case hy => (law_clear; first | omega | ((try simp only [decide_eq_true_eq, decide_eq_false_iff_not, gj, ij, cj, jj, aj, sj, leapS] at *); first | done | omega))); (case hn => (law_clear; first | omega | ((try simp only [decide_eq_true_eq, decide_eq_false_iff_not, gj, ij, cj, jj, aj, sj, leapS] at *); first | done | omega))); (try dsimp only); (try k_fold))))
local macro_rules | `(tactic| walk_at "call ref") => `(tactic| (k_here; (with_reducible show wpAny _ _ (PySem.call (Value.ref 325) [Value.ref _, Value.int 2117212 _, Value.int 533 _, Value.ref 282]) _ _ _); k_dflt (refine' use (c_count_sar _ _ _ _ _ _ _ _ _ ?hy ?hm ?hd) ?k1 ?k2 ?k3 ?k4 ?k5 ?kK ?kd ?ku ?_; (case k1 => k_asm); (case k2 => k_asm); (case k3 => k_asm); (case k4 => k_asm); (case k5 => k_asm); (case kK => first | exact rfl | assumption); (case kd => first | ((with_reducible refine' room_dp ?rdh ?rdk); (case rdh => with_reducible assumption); (case rdk => decide)) | ktr_room); (case ku => first | ((with_reducible refine' room_un ?ruh ?ruk); (case ruh => with_reducible assumption); (case ruk => decide)) | ktr_units); rotate_right; refine' ⟨?mT, ?_⟩; (case mT => first | k_mem | ((repeat (refine' List.Mem.tail _ ?_)); assumption)); intro t9 h9 tk9 F9 N9; (case hy => (law_clear; first | omega | ((try simp only [decide_eq_true_eq, decide_eq_false_iff_not, gj, ij, cj, jj, aj, sj, leapS] at *); first | done | omega))); (case hm => (law_clear; first | omega | ((try simp only [decide_eq_true_eq, decide_eq_false_iff_not, gj, ij, cj, jj, aj, sj, leapS] at *); first | done | omega))); (case hd => (law_clear; first | omega | ((try simp only [decide_eq_true_eq, decide_eq_false_iff_not, gj, ij, cj, jj, aj, sj, leapS] at *); first | done | omega))); (try dsimp only); (try k_fold))))
local macro_rules | `(tactic| walk_at "call ref") => `(tactic| (k_here; (with_reducible show wpAny _ _ (PySem.call (Value.ref 325) [Value.ref _, Value.int 2117212 _, Value.int 533 _, Value.ref 282]) _ _ _); k_dflt (refine' use (c_countN_sar _ _ _ _ _ _ _ _ _ ?hy ?hn) ?k1 ?k2 ?k3 ?k4 ?k5 ?kK ?kd ?ku ?_; (case k1 => k_asm); (case k2 => k_asm); (case k3 => k_asm); (case k4 => k_asm); (case k5 => k_asm); (case kK => first | exact rfl | assumption); (case kd => first | ((with_reducible refine' room_dp ?rdh ?rdk); (case rdh => with_reducible assumption); (case rdk => decide)) | ktr_room); (case ku => first | ((with_reducible refine' room_un ?ruh ?ruk); (case ruh => with_reducible assumption); (case ruk => decide)) | ktr_units); rotate_right; refine' ⟨?mT, ?_⟩; (case mT => first | k_mem | ((repeat (refine' List.Mem.tail _ ?_)); assumption)); intro t9 h9 tk9 F9 N9; (case hy => (law_clear; first | omega | ((try simp only [decide_eq_true_eq, decide_eq_false_iff_not, gj, ij, cj, jj, aj, sj, leapS] at *); first | done | omega))); (case hn => (law_clear; first | omega | ((try simp only [decide_eq_true_eq, decide_eq_false_iff_not, gj, ij, cj, jj, aj, sj, leapS] at *); first | done | omega))); (try dsimp only); (try k_fold))))
local macro_rules | `(tactic| walk_at "eval Name") => `(tactic| (k_here; k_dflt (first | (name_kind "local"; refine' nameX_L ?F ?v ?_ ?a ?b ?c; (case F => k_asm); (case a => kernel_rfl); (case b => kernel_rfl); (case c => kernel_rfl); (case v => first | (refine' look_of ?gg ?ge; (case gg => (repeat (first | (with_reducible exact guess_hit_l) | (with_reducible apply guess_miss_l) | (with_reducible exact guess_hit_if) | ((with_reducible show Guess (@ite _ _ _ _ _) _); (with_reducible apply guess_miss_if))))); (case ge => kernel_rfl)) | exact rfl)) | (name_kind "globalImplicit"; refine' nameX_K ?F ?X ?T ?e ?_ ?a ?b ?c; (case F => k_asm); (case X => k_asm); (case T => k_asm); (case e => with_reducible (first | exact gn_law_count _ | exact gn_to_jd_armenian _ | exact gn_leap_armenian _ | exact gn_law_jd _)); (case a => kernel_rfl); (case b => kernel_rfl); (case c => kernel_rfl)) | (name_kind "globalImplicit"; refine' nameX_B ?F ?X ?T ?e ?v ?n ?_ ?a ?b ?c; (case F => k_asm); (case X => k_asm); (case T => k_asm); (case e => with_reducible (first | exact gb_ValueError _)); (case v => with_reducible (first | exact bb_ValueError)); (case a => kernel_rfl); (case b => kernel_rfl); (case n => decide); (case c => kernel_rfl)))))
set_option maxRecDepth 100000 in
set_option maxHeartbeats 8000000 in
theorem c_tripV_arm (T : Addr) (y m d : Int) (t u v z1 z2 : Tok) (hy : 1 ≤ y ∧ y < 30000000) (hm : 1 ≤ m ∧ m ≤ 13) (hd : 1 ≤ d ∧ d ≤ mla m) :
    Claim 372 [.ref T, .none, .int 1922868 z1, .int 1 z2, .ref 283] 9 (WithT T (tup3 y t m u d v) (RetV fun _ => .bool true)) := by
  refine gate_out ?_
  simp (disch := (k_dflt (
  intro prog w p loose mean mg mb dp un gd cn cs a ccd cl outer A₀ base h₀ L mm news s Q E B F X N T hk hdp hun hret
  obtain ⟨hT, hret⟩ := hret
  have hl : m ≠ 13 ∨ d ≤ 5 := by
    have := hd.2; unfold mla at this; split at this <;> omega
  have hd2 : d ≤ 30 := by
    have := hd.2; unfold mla at this; split at this <;> omega
  (refine wpAny_call ?_; (k_dflt cell_enter); (try ((rename Fr _ _ _ _ => F8); (first | (have F9 := Fr_as F8 (m' := fun y9 => List.lookup y9 [(Str.ofString "cycle", (.ref 283 : Value)), (Str.ofString "start", (.int 1 z2 : Value)), (Str.ofString "first", (.int 1922868 z1 : Value)), (Str.ofString "method", (.none : Value)), (Str.ofString "dated", (.ref T : Value))]) rfl) | (have F9 := Fr_as F8 (m' := fun y9 => List.lookup y9 [(Str.ofString "dated", (.ref T : Value)), (Str.ofString "method", (.none : Value)), (Str.ofString "first", (.int 1922868 z1 : Value)), (Str.ofString "start", (.int 1 z2 : Value)), (Str.ofString "cycle", (.ref 283 : Value))]) rfl)); clear F8));  k_steps; all_goals (first | (((first | (with_reducible refine' hret 0 ?_ ?_ ?cbF ?cbN) | (with_reducible refine' hret _ ?_ ?_ ?cbF ?cbN))); (case cbF => k_asm); (case cbN => first | (with_reducible assumption) | (refine' cb_drop ?cbM ?cbS; (case cbM => assumption); (case cbS => (first | (intro p9 hp9; (repeat (with_reducible refine List.mem_cons_of_mem _ ?_)); exact hp9) | kcj_all))))) | cb_end hret))))) only [↓gate_true]
end
section
local macro_rules | `(tactic| walk_at "call ref") => `(tactic| (k_here; (with_reducible show wpAny _ _ (PySem.call (Value.ref 221) [Value.int _ _]) _ _ _); k_dflt (refine' use (c_leap_arm _ _) ?k1 ?k2 ?k3 ?k4 ?k5 ?kK ?kd ?ku ?_; (case k1 => k_asm); (case k2 => k_asm); (case k3 => k_asm); (case k4 => k_asm); (case k5 => k_asm); (case kK => first | exact rfl | assumption); (case kd => first | ((with_reducible refine' room_dp ?rdh ?rdk); (case rdh => with_reducible assumption); (case rdk => decide)) | ktr_room); (case ku => first | ((with_reducible refine' room_un ?ruh ?ruk); (case ruh => with_reducible assumption); (case ruk => decide)) | ktr_units); intro t9 h9 tk9 F9 N9; (try dsimp only); (try k_fold))))
local macro_rules | `(tactic| walk_at "call ref") => `(tactic| (k_here; (with_reducible show wpAny _ _ (PySem.call (Value.ref 297) [Value.int _ _]) _ _ _); k_dflt (refine' use (c_jd _ _ ?hd) ?k1 ?k2 ?k3 ?k4 ?k5 ?kK ?kd ?ku ?_; (case k1 => k_asm); (case k2 => k_asm); (case k3 => k_asm); (case k4 => k_asm); (case k5 => k_asm); (case kK => first | exact rfl | assumption); (case kd => first | ((with_reducible refine' room_dp ?rdh ?rdk); (case rdh => with_reducible assumption); (case rdk => decide)) | ktr_room); (case ku => first | ((with_reducible refine' room_un ?ruh ?ruk); (case ruh => with_reducible assumption); (case ruk => decide)) | ktr_units); (case hd => (law_clear; first | omega | ((try simp only [decide_eq_true_eq, decide_eq_false_iff_not, gj, ij, cj, jj, aj, sj, leapS] at *); first | done | omega))); intro t9 h9 tk9 F9 N9; (try dsimp only); (try k_fold))))
local macro_rules | `(tactic| walk_at "call ref") => `(tactic| (k_here; (with_reducible show wpAny _ _ (PySem.call (Value.ref 325) [Value.ref _, Value.int 1922868 _, Value.int 1 _, Value.ref 283]) _ _ _); k_dflt (refine' use (c_count_arm _ _ _ _ _ _ _ _ _ ?hy ?hm ?hd) ?k1 ?k2 ?k3 ?k4 ?k5 ?kK ?kd ?ku ?_; (case k1 => k_asm); (case k2 => k_asm); (case k3 => k_asm); (case k4 => k_asm); (case k5 => k_asm); (case kK => first | exact rfl | assumption); (case kd => first | ((with_reducible refine' room_dp ?rdh ?rdk); (case rdh => with_reducible assumption); (case rdk => decide)) | ktr_room); (case ku => first | ((with_reducible refine' room_un ?ruh ?ruk); (case ruh => with_reducible assumption); (case ruk => decide)) | ktr_units); rotate_right; refine' ⟨?mT, ?_⟩; (case mT => first | k_mem | ((repeat (refine' List.Mem.tail _ ?_)); assumption)); intro t9 h9 tk9 F9 N9; (case hy => (law_clear; first | omega | ((try simp only [decide_eq_true_eq, decide_eq_false_iff_not, gj, ij, cj, jj, aj, sj, leapS] at *); first | done | omega))); (case hm => (law_clear; first | omega | ((try simp only [decide_eq_true_eq, decide_eq_false_iff_not, gj, ij, cj, jj, aj, sj, leapS] at *); first | done | omega))); (case hd => (law_clear; first | omega | ((try simp only [decide_eq_true_eq, decide_eq_false_iff_not, gj, ij, cj, jj, aj, sj, leapS] at *); first | done | omega))); (try dsimp only); (try k_fold))))
local macro_rules | `(tactic| walk_at "call ref") => `(tactic| (k_here; (with_reducible show wpAny _ _ (PySem.call (Value.ref 325) [Value.ref _, Value.int 1922868 _, Value.int 1 _, Value.ref 283]) _ _ _); k_dflt (refine' use (c_countN_arm _ _ _ _ _ _ _ _ _ ?hy ?hn) ?k1 ?k2 ?k3 ?k4 ?k5 ?kK ?kd ?ku ?_; (case k1 => k_asm); (case k2 => k_asm); (case k3 => k_asm); (case k4 => k_asm); (case k5 => k_asm); (case kK => first | exact rfl | assumption); (case kd => first | ((with_reducible refine' room_dp ?rdh ?rdk); (case rdh => with_reducible assumption); (case rdk => decide)) | ktr_room); (case ku => first | ((with_reducible refine' room_un ?ruh ?ruk); (case ruh => with_reducible assumption); (case ruk => decide)) | ktr_units); rotate_right; refine' ⟨?mT, ?_⟩; (case mT => first | k_mem | ((repeat (refine' List.Mem.tail _ ?_)); assumption)); intro t9 h9 tk9 F9 N9; (case hy => (law_clear; first | omega | ((try simp only [decide_eq_true_eq, decide_eq_false_iff_not, gj, ij, cj, jj, aj, sj, leapS] at *); first | done | omega))); (case hn => (law_clear; first | omega | ((try simp only [decide_eq_true_eq, decide_eq_false_iff_not, gj, ij, cj, jj, aj, sj, leapS] at *); first | done | omega))); (try dsimp only); (try k_fold))))
local macro_rules | `(tactic| walk_at "call ref") => `(tactic| (k_here; (with_reducible show wpAny _ _ (PySem.call (Value.ref 325) [Value.ref _, Value.int 2117212 _, Value.int 533 _, Value.ref 282]) _ _ _); k_dflt (refine' use (c_count_sar _ _ _ _ _ _ _ _ _ ?hy ?hm ?hd) ?k1 ?k2 ?k3 ?k4 ?k5 ?kK ?kd ?ku ?_; (case k1 => k_asm); (case k2 => k_asm); (case k3 => k_asm); (case k4 => k_asm); (case k5 => k_asm); (case kK => first | exact rfl | assumption); (case kd => first | ((with_reducible refine' room_dp ?rdh ?rdk); (case rdh => with_reducible assumption); (case rdk => decide)) | ktr_room); (case ku => first | ((with_reducible refine' room_un ?ruh ?ruk); (case ruh => with_reducible assumption); (case ruk => decide)) | ktr_units); rotate_right; refine' ⟨?mT, ?_⟩; (case mT => first | k_mem | ((repeat (refine' List.Mem.tail _ ?_)); assumption)); intro t9 h9 tk9 F9 N9; (case hy => (law_clear; first | omega | ((try simp only [decide_eq_true_eq, decide_eq_false_iff_not, gj, ij, cj, jj, aj, sj, leapS] at *); first | done | omega))); (case hm => (law_clear; first | omega | ((try simp only [decide_eq_true_eq, decide_eq_false_iff_not, gj, ij, cj, jj, aj, sj, leapS] at *); first | done | omega))); (case hd => (law_clear; first | omega | ((try simp only [decide_eq_true_eq, decide_eq_false_iff_not, gj, ij, cj, jj, aj, sj, leapS] at *); first | done | omega))); (try dsimp only); (try k_fold))))
local macro_rules | `(tactic| walk_at "call ref") => `(tactic| (k_here; (with_reducible show wpAny _ _ (PySem.call (Value.ref 325) [Value.ref _, Value.int 2117212 _, Value.int 533 _, Value.ref 282]) _ _ _); k_dflt (refine' use (c_countN_sar _ _ _ _ _ _ _ _ _ ?hy ?hn) ?k1 ?k2 ?k3 ?k4 ?k5 ?kK ?kd ?ku ?_; (case k1 => k_asm); (case k2 => k_asm); (case k3 => k_asm); (case k4 => k_asm); (case k5 => k_asm); (case kK => first | exact rfl | assumption); (case kd => first | ((with_reducible refine' room_dp ?rdh ?rdk); (case rdh => with_reducible assumption); (case rdk => decide)) | ktr_room); (case ku => first | ((with_reducible refine' room_un ?ruh ?ruk); (case ruh => with_reducible assumption); (case ruk => decide)) | ktr_units); rotate_right; refine' ⟨?mT, ?_⟩; (case mT => first | k_mem | ((repeat (refine' List.Mem.tail _ ?_)); assumption)); intro t9 h9 tk9 F9 N9; (case hy => (law_clear; first | omega | ((try simp only [decide_eq_true_eq, decide_eq_false_iff_not, gj, ij, cj, jj, aj, sj, leapS] at *); first | done | omega))); (case hn => (law_clear; first | omega | ((try simp only [decide_eq_true_eq, decide_eq_false_iff_not, gj, ij, cj, jj, aj, sj, leapS] at *); first | done | omega))); (try dsimp only); (try k_fold))))
local macro_rules | `(tactic| walk_at "eval Name") => `(tactic| (k_here; k_dflt (first | (name_kind "local"; refine' nameX_L ?F ?v ?_ ?a ?b ?c; (case F => k_asm); (case a => kernel_rfl); (case b => kernel_rfl); (case c => kernel_rfl); (case v => first | (refine' look_of ?gg ?ge; (case gg => (repeat (first | (with_reducible exact guess_hit_l) | (with_reducible apply guess_miss_l) | (with_reducible exact guess_hit_if) | ((with_reducible show Guess (@ite _ _ _ _ _) _); (with_reducible apply guess_miss_if))))); (case ge => kernel_rfl)) | exact rfl)) | (name_kind "globalImplicit"; refine' nameX_K ?F ?X ?T ?e ?_ ?a ?b ?c; (case F => k_asm); (case X => k_asm); (case T => k_asm); (case e => with_reducible (first | exact gn_law_count _ | exact gn_to_jd_armenian _ | exact gn_leap_armenian _ | exact gn_law_jd _)); (case a => kernel_rfl); (case b => kernel_rfl); (case c => kernel_rfl)) | (name_kind "globalImplicit"; refine' nameX_B ?F ?X ?T ?e ?v ?n ?_ ?a ?b ?c; (case F => k_asm); (case X => k_asm); (case T => k_asm); (case e => with_reducible (first | exact gb_ValueError _)); (case v => with_reducible (first | exact bb_ValueError)); (case a => kernel_rfl); (case b => kernel_rfl); (case n => decide); (case c => kernel_rfl)))))
local macro_rules | `(tactic| walk_at "eval Name") => `(tactic| (k_here; k_dflt (first | (name_kind "local"; refine' nameX_L ?F ?v ?_ ?a ?b ?c; (case F => k_asm); (case a => kernel_rfl); (case b => kernel_rfl); (case c => kernel_rfl); (case v => first | (refine' look_of ?gg ?ge; (case gg => (repeat (first | (with_reducible exact guess_hit_l) | (with_reducible apply guess_miss_l) | (with_reducible exact guess_hit_if) | ((with_reducible show Guess (@ite _ _ _ _ _) _); (with_reducible apply guess_miss_if))))); (case ge => kernel_rfl)) | exact rfl)) | (name_kind "globalImplicit"; refine' nameX_K ?F ?X ?T ?e ?_ ?a ?b ?c; (case F => k_asm); (case X => k_asm); (case T => k_asm); (case e => with_reducible (first | exact gn_valid_date _ | exact gn_trunc _ | exact gn_EPOCH_armenian _ | exact gn_EPOCH_SARKAWAG _)); (case a => kernel_rfl); (case b => kernel_rfl); (case c => kernel_rfl)))))
local macro_rules | `(tactic| walk_at "call ref") => `(tactic| (k_here; (with_reducible show wpAny _ _ (PySem.call (Value.ref 229) _) _ _ _); refine wpAny_call ?_; k_dflt (refine' code_defS ?k1 ?k2 ?k3 ?k4 ?k5 ?XB ?TB ?D ?T0 ?kA ?k6 ?k7 ?k8 ?k9 ?kB ?_ ?cK ?c2 ?c3 ?c4 ?c5; (case kA => exact rfl); (case k2 => k_asm); (case k1 => k_asm); (case XB => assumption); (case TB => assumption); (case D => assumption); (case T0 => first | assumption | exact KtsTurn.refl); (case k3 => k_asm); (case k4 => k_asm); (case k5 => k_asm); (case k6 => k_is); (case k7 => k_is); (case k8 => ktr_room); (case k9 => first | exact binds_K (by k_in) rfl (by k_is) rfl rfl rfl | exact BindsTo.of_eq rfl); (case kB => exact locs rfl); (case cK => exact rfl); (case c2 => exact rfl); (case c3 => exact rfl); (case c4 => exact rfl); (case c5 => decide); k_whole; intro g' L' h' FG' F' N' B' X' T' D'; (try dsimp only); (try k_lift B'); (try k_fold))))
local macro_rules | `(tactic| walk_at "eval Name") => `(tactic| (k_here; k_dflt (first | (name_kind "local"; refine' nameX_L ?F ?v ?_ ?a ?b ?c; (case F => k_asm); (case a => kernel_rfl); (case b => kernel_rfl); (case c => kernel_rfl); (case v => first | (refine' look_of ?gg ?ge; (case gg => (repeat (first | (with_reducible exact guess_hit_l) | (with_reducible apply guess_miss_l) | (with_reducible exact guess_hit_if) | ((with_reducible show Guess (@ite _ _ _ _ _) _); (with_reducible apply guess_miss_if))))); (case ge => kernel_rfl)) | exact rfl)) | (name_kind "globalImplicit"; refine' nameX_K ?F ?X ?T ?e ?_ ?a ?b ?c; (case F => k_asm); (case X => k_asm); (case T => k_asm); (case e => with_reducible (first | exact gn_leap_armenian _)); (case a => kernel_rfl); (case b => kernel_rfl); (case c => kernel_rfl)) | (name_kind "globalImplicit"; refine' nameX_B ?F ?X ?T ?e ?v ?n ?_ ?a ?b ?c; (case F => k_asm); (case X => k_asm); (case T => k_asm); (case e => with_reducible (first | exact gb_AssertionError _ | exact gb_ValueError _)); (case v => with_reducible (first | exact bb_AssertionError | exact bb_ValueError)); (case a => kernel_rfl); (case b => kernel_rfl); (case n => decide); (case c => kernel_rfl)))))
local macro_rules | `(tactic| walk_at "call ref") => `(tactic| (k_here; (with_reducible show wpAny _ _ (PySem.call (Value.ref 214) _) _ _ _); refine wpAny_call ?_; k_dflt (refine' code_defS ?k1 ?k2 ?k3 ?k4 ?k5 ?XB ?TB ?D ?T0 ?kA ?k6 ?k7 ?k8 ?k9 ?kB ?_ ?cK ?c2 ?c3 ?c4 ?c5; (case kA => exact rfl); (case k2 => k_asm); (case k1 => k_asm); (case XB => assumption); (case TB => assumption); (case D => assumption); (case T0 => first | assumption | exact KtsTurn.refl); (case k3 => k_asm); (case k4 => k_asm); (case k5 => k_asm); (case k6 => k_is); (case k7 => k_is); (case k8 => ktr_room); (case k9 => first | exact binds_K (by k_in) rfl (by k_is) rfl rfl rfl | exact BindsTo.of_eq rfl); (case kB => exact locs rfl); (case cK => exact rfl); (case c2 => exact rfl); (case c3 => exact rfl); (case c4 => exact rfl); (case c5 => decide); k_whole; intro g' L' h' FG' F' N' B' X' T' D'; (try dsimp only); (try k_lift B'); (try k_fold))))
local macro_rules | `(tactic| walk_at "noteFrame ref") => `(tactic| (k_here; (rename Heap.NewExc _ _ _ _ => nx9); (with_reducible show wpAny _ _ (noteFrame _ _) (fun _ s₂ => wpAny _ _ (setFlight _ none) (fun _ s₃ => wpAny _ _ (handleBy _ _ (ExceptHandler.ExceptHandler (some (Expr.Name _ _)) (some _) _ _ :: _)) _ _ s₃) _ s₂) _ _); k_dflt (refine' caught_new (T' := "AssertionError") ?cnK ?cnF nx9 ?cnN ?cnXB ?cnTB ?cnD ?cnT ?cnx PyProof.Rows.Boot.«AssertionError» ?cnn PySem.F.isExc_AssertionError PySem.F.notTuple_AssertionError ?cns ?_; (case cnK => assumption); (case cnF => assumption); (case cnN => k_asm); (case cnXB => assumption); (case cnTB => assumption); (case cnD => assumption); (case cnT => first | assumption | exact KtsTurn.refl); (case cns => kts_sub); (case cnx => k_is); (case cnn => decide)); intro h' g' tk' t' T9 ob9 oc9 od9 T' F' N' K' X' P' D'; (try k_lift K'); (try k_sweep); (try dsimp only)))
local macro_rules | `(tactic| walk_at "exec Raise some some") => `(tactic| (k_here; k_dflt (refine' Raise_from (Y := "AssertionError") ?rfh PyProof.Rows.excClass_ValueError ?rfs ?rfe ?rfc ?rfd PySem.F.isExc_AssertionError ?rfx ?rfn ?_; (case rfh => exact rfl); (case rfs => (rw [isSubtype_type]; kernel_rfl)); (case rfe => exact News.get (by k_asm) (by k_mem)); (case rfc => assumption); (case rfd => assumption); (case rfx => (walk_at "eval Name"; exact ⟨rfl, rfl⟩)); (case rfn => (walk_at "eval Name"; exact ⟨rfl, rfl⟩)); intro h8 e8 ob8 t8 new8 keep8 get8 cls8 dat8; refine' suite_raised ?srK ?srF ?srN new8 keep8 get8 cls8 dat8 ?_; (case srK => assumption); (case srF => assumption); (case srN => k_asm); intro G9 m9 h9 tk9 R9 F9 U9; (try dsimp only))))
local macro_rules | `(tactic| walk_at "leaving ref") => `(tactic| (k_here; k_dflt (refine' leave_turned ?ltK ?ltF ?ltT ?ltR ?ltU ?_; (case ltR => assumption); (case ltU => assumption); (case ltT => assumption); (case ltF => assumption); (case ltK => assumption)); intro g9 h9 T9 R9 U9; (try dsimp only)))
local macro_rules | `(tactic| walk_at "noteFrame ref") => `(tactic| (k_here; (with_reducible show wpAny _ _ (noteFrame _ _) (fun _ s₂ => wpAny _ _ (setFlight _ none) (fun _ s₃ => wpAny _ _ (handleBy _ _ (ExceptHandler.ExceptHandler (some (Expr.Name _ _)) none _ _ :: _)) _ _ s₃) _ s₂) _ _); k_dflt (refine' caught_turned (T' := "ValueError") ?ctK ?ctF ?ctT ?ctR ?ctU ?ctX ?ctB ?ctD ?ct0 ?cte PyProof.Rows.Boot.«ValueError» ?ctn PySem.F.isExc_ValueError PySem.F.notTuple_ValueError ?cts ?_; (case ctR => assumption); (case ctU => assumption); (case ctT => assumption); (case ctF => assumption); (case ctK => assumption); (case ctX => assumption); (case ctB => assumption); (case ctD => assumption); (case ct0 => first | assumption | exact KtsTurn.refl); (case cts => kts_sub); (case cte => k_is); (case ctn => decide)); intro h' g' T' F' N' K' X' P' D'; (try k_lift K'); (try k_sweep); (try dsimp only)))
set_option maxRecDepth 100000 in
set_option maxHeartbeats 8000000 in
theorem c_tripN_arm (T : Addr) (y m d : Int) (t u v z1 z2 : Tok) (hy : -30000000 < y ∧ y < 30000000) (hm : -100 < m ∧ m < 100) (hd : -100 < d ∧ d < 100) (hn : y < 1 ∨ m < 1 ∨ 13 < m ∨ d < 1 ∨ mla m < d) :
    Claim0 372 [.ref T, .none, .int 1922868 z1, .int 1 z2, .ref 283] 9 (WithT T (tup3 y t m u d v) (RetV fun _ => .bool true)) := by
  refine gate_out ?_
  simp (disch := (k_dflt (
  intro prog w p loose mean mg mb dp un gd cn cs a ccd A₀ base h₀ L mm news s Q E B F X N T XB TB hk hdp hun hret
  obtain ⟨hT, hret⟩ := hret
  have hml : (m = 13 ∧ mla m = 5) ∨ (m ≠ 13 ∧ mla m = 30) := by
    unfold mla; split <;> omega
  have hjL : JoinB 350 32 false := ⟨⟩
  rcases (show (m < 1 ∨ 13 < m) ∨ ((1 ≤ m ∧ m ≤ 13) ∧ y < 1) ∨ ((1 ≤ m ∧ m ≤ 13) ∧ 1 ≤ y ∧ (d < 1 ∨ mla m < d)) by omega) with hc | hc | hc
  · have hjA : JoinB 169 15 false := ⟨⟩
    (refine wpAny_call ?_; k_dflt (refine' code_defS0 ?k1 ?k2 ?k3 ?k4 ?k5 ?kA ?k6 ?k7 ?k8 ?k9 ?kB ?_ ?cK ?c2 ?c3 ?c4 ?c5; (case kA => exact rfl); (case k2 => k_asm); (case k1 => k_asm); (case k3 => k_asm); (case k4 => k_asm); (case k5 => k_asm); (case k6 => k_is); (case k7 => k_is); (case k8 => ktr_room); (case k9 => exact BindsTo.of_eq rfl); (case kB => exact locs rfl); (case cK => assumption); (case c2 => exact rfl); (case c3 => exact rfl); (case c4 => exact rfl); (case c5 => decide); k_whole; intro g' L' h' FG' F' N' B' X' T' D'; (try dsimp only); (try k_lift B'); (try k_fold)); (try ((rename Fr _ _ _ _ => F8); (first | (have F9 := Fr_as F8 (m' := fun y9 => List.lookup y9 [(Str.ofString "cycle", (.ref 283 : Value)), (Str.ofString "start", (.int 1 z2 : Value)), (Str.ofString "first", (.int 1922868 z1 : Value)), (Str.ofString "method", (.none : Value)), (Str.ofString "dated", (.ref T : Value))]) rfl) | (have F9 := Fr_as F8 (m' := fun y9 => List.lookup y9 [(Str.ofString "dated", (.ref T : Value)), (Str.ofString "method", (.none : Value)), (Str.ofString "first", (.int 1922868 z1 : Value)), (Str.ofString "start", (.int 1 z2 : Value)), (Str.ofString "cycle", (.ref 283 : Value))]) rfl)); clear F8));  k_steps; all_goals first | (refine' join_end ?jF ?jN ?jm ?jk; (case jF => k_asm); (case jN => k_asm); (case jm => first | (intro y; exact rfl) | exact join_same rfl); (case jk => (law_clear; first | omega | ((repeat' split at *) <;> omega)))) | (refine' join_bool ?jF ?jN ?jk; (case jF => k_asm); (case jN => k_asm); (case jk => first | exact rfl | (exfalso; law_clear; omega) | (law_clear; (try simp only [decide_eq_true_eq, decide_eq_false_iff_not, Bool.not_eq_true, Bool.not_eq_false, Bool.not_eq_eq_eq_not, Bool.not_false, Bool.not_true, beq_iff_eq, decide_eq_decide, bne_eq_false_iff_eq]); omega))) | (first | (((first | (with_reducible refine' hret 0 ?_ ?_ ?cbF ?cbN) | (with_reducible refine' hret _ ?_ ?_ ?cbF ?cbN))); (case cbF => k_asm); (case cbN => first | (with_reducible assumption) | (refine' cb_drop ?cbM ?cbS; (case cbM => assumption); (case cbS => (first | (intro p9 hp9; (repeat (with_reducible refine List.mem_cons_of_mem _ ?_)); exact hp9) | kcj_all))))) | cb_end hret))
  · have hjD : JoinAt 180 (Str.ofString "day_max") (mla m) := ⟨⟩
    (refine wpAny_call ?_; k_dflt (refine' code_defS0 ?k1 ?k2 ?k3 ?k4 ?k5 ?kA ?k6 ?k7 ?k8 ?k9 ?kB ?_ ?cK ?c2 ?c3 ?c4 ?c5; (case kA => exact rfl); (case k2 => k_asm); (case k1 => k_asm); (case k3 => k_asm); (case k4 => k_asm); (case k5 => k_asm); (case k6 => k_is); (case k7 => k_is); (case k8 => ktr_room); (case k9 => exact BindsTo.of_eq rfl); (case kB => exact locs rfl); (case cK => assumption); (case c2 => exact rfl); (case c3 => exact rfl); (case c4 => exact rfl); (case c5 => decide); k_whole; intro g' L' h' FG' F' N' B' X' T' D'; (try dsimp only); (try k_lift B'); (try k_fold)); (try ((rename Fr _ _ _ _ => F8); (first | (have F9 := Fr_as F8 (m' := fun y9 => List.lookup y9 [(Str.ofString "cycle", (.ref 283 : Value)), (Str.ofString "start", (.int 1 z2 : Value)), (Str.ofString "first", (.int 1922868 z1 : Value)), (Str.ofString "method", (.none : Value)), (Str.ofString "dated", (.ref T : Value))]) rfl) | (have F9 := Fr_as F8 (m' := fun y9 => List.lookup y9 [(Str.ofString "dated", (.ref T : Value)), (Str.ofString "method", (.none : Value)), (Str.ofString "first", (.int 1922868 z1 : Value)), (Str.ofString "start", (.int 1 z2 : Value)), (Str.ofString "cycle", (.ref 283 : Value))]) rfl)); clear F8));  k_steps; all_goals first | (refine' join_end ?jF ?jN ?jm ?jk; (case jF => k_asm); (case jN => k_asm); (case jm => first | (intro y; exact rfl) | exact join_same rfl); (case jk => (law_clear; first | omega | ((repeat' split at *) <;> omega)))) | (refine' join_bool ?jF ?jN ?jk; (case jF => k_asm); (case jN => k_asm); (case jk => first | exact rfl | (exfalso; law_clear; omega) | (law_clear; (try simp only [decide_eq_true_eq, decide_eq_false_iff_not, Bool.not_eq_true, Bool.not_eq_false, Bool.not_eq_eq_eq_not, Bool.not_false, Bool.not_true, beq_iff_eq, decide_eq_decide, bne_eq_false_iff_eq]); omega))) | (first | (((first | (with_reducible refine' hret 0 ?_ ?_ ?cbF ?cbN) | (with_reducible refine' hret _ ?_ ?_ ?cbF ?cbN))); (case cbF => k_asm); (case cbN => first | (with_reducible assumption) | (refine' cb_drop ?cbM ?cbS; (case cbM => assumption); (case cbS => (first | (intro p9 hp9; (repeat (with_reducible refine List.mem_cons_of_mem _ ?_)); exact hp9) | kcj_all))))) | cb_end hret))
  · have hjD : JoinAt 180 (Str.ofString "day_max") (mla m) := ⟨⟩
    have hjA : JoinB 187 15 false := ⟨⟩
    (refine wpAny_call ?_; k_dflt (refine' code_defS0 ?k1 ?k2 ?k3 ?k4 ?k5 ?kA ?k6 ?k7 ?k8 ?k9 ?kB ?_ ?cK ?c2 ?c3 ?c4 ?c5; (case kA => exact rfl); (case k2 => k_asm); (case k1 => k_asm); (case k3 => k_asm); (case k4 => k_asm); (case k5 => k_asm); (case k6 => k_is); (case k7 => k_is); (case k8 => ktr_room); (case k9 => exact BindsTo.of_eq rfl); (case kB => exact locs rfl); (case cK => assumption); (case c2 => exact rfl); (case c3 => exact rfl); (case c4 => exact rfl); (case c5 => decide); k_whole; intro g' L' h' FG' F' N' B' X' T' D'; (try dsimp only); (try k_lift B'); (try k_fold)); (try ((rename Fr _ _ _ _ => F8); (first | (have F9 := Fr_as F8 (m' := fun y9 => List.lookup y9 [(Str.ofString "cycle", (.ref 283 : Value)), (Str.ofString "start", (.int 1 z2 : Value)), (Str.ofString "first", (.int 1922868 z1 : Value)), (Str.ofString "method", (.none : Value)), (Str.ofString "dated", (.ref T : Value))]) rfl) | (have F9 := Fr_as F8 (m' := fun y9 => List.lookup y9 [(Str.ofString "dated", (.ref T : Value)), (Str.ofString "method", (.none : Value)), (Str.ofString "first", (.int 1922868 z1 : Value)), (Str.ofString "start", (.int 1 z2 : Value)), (Str.ofString "cycle", (.ref 283 : Value))]) rfl)); clear F8));  k_steps; all_goals first | (refine' join_end ?jF ?jN ?jm ?jk; (case jF => k_asm); (case jN => k_asm); (case jm => first | (intro y; exact rfl) | exact join_same rfl); (case jk => (law_clear; first | omega | ((repeat' split at *) <;> omega)))) | (refine' join_bool ?jF ?jN ?jk; (case jF => k_asm); (case jN => k_asm); (case jk => first | exact rfl | (exfalso; law_clear; omega) | (law_clear; (try simp only [decide_eq_true_eq, decide_eq_false_iff_not, Bool.not_eq_true, Bool.not_eq_false, Bool.not_eq_eq_eq_not, Bool.not_false, Bool.not_true, beq_iff_eq, decide_eq_decide, bne_eq_false_iff_eq]); omega))) | (first | (((first | (with_reducible refine' hret 0 ?_ ?_ ?cbF ?cbN) | (with_reducible refine' hret _ ?_ ?_ ?cbF ?cbN))); (case cbF => k_asm); (case cbN => first | (with_reducible assumption) | (refine' cb_drop ?cbM ?cbS; (case cbM => assumption); (case cbS => (first | (intro p9 hp9; (repeat (with_reducible refine List.mem_cons_of_mem _ ?_)); exact hp9) | kcj_all))))) | cb_end hret))))) only [↓gate_true]
end
section
local macro_rules | `(tactic| walk_at "call ref") => `(tactic| (k_here; (with_reducible show wpAny _ _ (PySem.call (Value.ref 221) [Value.int _ _]) _ _ _); k_dflt (refine' use (c_leap_arm _ _) ?k1 ?k2 ?k3 ?k4 ?k5 ?kK ?kd ?ku ?_; (case k1 => k_asm); (case k2 => k_asm); (case k3 => k_asm); (case k4 => k_asm); (case k5 => k_asm); (case kK => first | exact rfl | assumption); (case kd => first | ((with_reducible refine' room_dp ?rdh ?rdk); (case rdh => with_reducible assumption); (case rdk => decide)) | ktr_room); (case ku => first | ((with_reducible refine' room_un ?ruh ?ruk); (case ruh => with_reducible assumption); (case ruk => decide)) | ktr_units); intro t9 h9 tk9 F9 N9; (try dsimp only); (try k_fold))))
local macro_rules | `(tactic| walk_at "call ref") => `(tactic| (k_here; (with_reducible show wpAny _ _ (PySem.call (Value.ref 229) [Value.int _ _, Value.int _ _, Value.int _ _, Value.none]) _ _ _); k_dflt (refine' use (c_tojd_n _ _ _ _ _ _ ?hy ?hm ?hd ?hl) ?k1 ?k2 ?k3 ?k4 ?k5 ?kK ?kd ?ku ?_; (case k1 => k_asm); (case k2 => k_asm); (case k3 => k_asm); (case k4 => k_asm); (case k5 => k_asm); (case kK => first | exact rfl | assumption); (case kd => first | ((with_reducible refine' room_dp ?rdh ?rdk); (case rdh => with_reducible assumption); (case rdk => decide)) | ktr_room); (case ku => first | ((with_reducible refine' room_un ?ruh ?ruk); (case ruh => with_reducible assumption); (case ruk => decide)) | ktr_units); (case hy => (law_clear; first | omega | ((try simp only [decide_eq_true_eq, decide_eq_false_iff_not, gj, ij, cj, jj, aj, sj, leapS] at *); first | done | omega))); (case hm => (law_clear; first | omega | ((try simp only [decide_eq_true_eq, decide_eq_false_iff_not, gj, ij, cj, jj, aj, sj, leapS] at *); first | done | omega))); (case hd => (law_clear; first | omega | ((try simp only [decide_eq_true_eq, decide_eq_false_iff_not, gj, ij, cj, jj, aj, sj, leapS] at *); first | done | omega))); (case hl => (law_clear; first | omega | ((try simp only [decide_eq_true_eq, decide_eq_false_iff_not, gj, ij, cj, jj, aj, sj, leapS] at *); first | done | omega))); intro t9 h9 tk9 F9 N9; (try dsimp only); (try k_fold))))
local macro_rules | `(tactic| walk_at "call ref") => `(tactic| (k_here; (with_reducible show wpAny _ _ (PySem.call (Value.ref 229) [Value.int _ _, Value.int _ _, Value.int _ _, Value.str (Str.ofString "sarkawag") _]) _ _ _); k_dflt (refine' use (c_tojd_s _ _ _ _ _ _ _ ?hy ?hm ?hd ?hl) ?k1 ?k2 ?k3 ?k4 ?k5 ?kK ?kd ?ku ?_; (case k1 => k_asm); (case k2 => k_asm); (case k3 => k_asm); (case k4 => k_asm); (case k5 => k_asm); (case kK => first | exact rfl | assumption); (case kd => first | ((with_reducible refine' room_dp ?rdh ?rdk); (case rdh => with_reducible assumption); (case rdk => decide)) | ktr_room); (case ku => first | ((with_reducible refine' room_un ?ruh ?ruk); (case ruh => with_reducible assumption); (case ruk => decide)) | ktr_units); (case hy => (law_clear; first | omega | ((try simp only [decide_eq_true_eq, decide_eq_false_iff_not, gj, ij, cj, jj, aj, sj, leapS] at *); first | done | omega))); (case hm => (law_clear; first | omega | ((try simp only [decide_eq_true_eq, decide_eq_false_iff_not, gj, ij, cj, jj, aj, sj, leapS] at *); first | done | omega))); (case hd => (law_clear; first | omega | ((try simp only [decide_eq_true_eq, decide_eq_false_iff_not, gj, ij, cj, jj, aj, sj, leapS] at *); first | done | omega))); (case hl => (law_clear; first | omega | ((try simp only [decide_eq_true_eq, decide_eq_false_iff_not, gj, ij, cj, jj, aj, sj, leapS] at *); first | done | omega))); intro t9 h9 tk9 F9 N9; (try dsimp only); (try k_fold))))
local macro_rules | `(tactic| walk_at "call ref") => `(tactic| (k_here; (with_reducible show wpAny _ _ (PySem.call (Value.ref 229) [Value.int (armY _) _, Value.int (armM _) _, Value.int (armD _) _, Value.none]) _ _ _); k_dflt (refine' use (c_tojd_arm_at _ _ _ _ ?hd) ?k1 ?k2 ?k3 ?k4 ?k5 ?kK ?kd ?ku ?_; (case k1 => k_asm); (case k2 => k_asm); (case k3 => k_asm); (case k4 => k_asm); (case k5 => k_asm); (case kK => first | exact rfl | assumption); (case kd => first | ((with_reducible refine' room_dp ?rdh ?rdk); (case rdh => with_reducible assumption); (case rdk => decide)) | ktr_room); (case ku => first | ((with_reducible refine' room_un ?ruh ?ruk); (case ruh => with_reducible assumption); (case ruk => decide)) | ktr_units); (case hd => (law_clear; first | omega | ((try simp only [decide_eq_true_eq, decide_eq_false_iff_not, gj, ij, cj, jj, aj, sj, leapS] at *); first | done | omega))); intro t9 h9 tk9 F9 N9; (try dsimp only); (try k_fold))))
local macro_rules | `(tactic| walk_at "call ref") => `(tactic| (k_here; (with_reducible show wpAny _ _ (PySem.call (Value.ref 229) [Value.int (sarY _) _, Value.int (sarM _) _, Value.int (sarD _) _, Value.str (Str.ofString "sarkawag") _]) _ _ _); k_dflt (refine' use (c_tojd_sar_at _ _ _ _ _ ?hd) ?k1 ?k2 ?k3 ?k4 ?k5 ?kK ?kd ?ku ?_; (case k1 => k_asm); (case k2 => k_asm); (case k3 => k_asm); (case k4 => k_asm); (case k5 => k_asm); (case kK => first | exact rfl | assumption); (case kd => first | ((with_reducible refine' room_dp ?rdh ?rdk); (case rdh => with_reducible assumption); (case rdk => decide)) | ktr_room); (case ku => first | ((with_reducible refine' room_un ?ruh ?ruk); (case ruh => with_reducible assumption); (case ruk => decide)) | ktr_units); (case hd => (law_clear; first | omega | ((try simp only [decide_eq_true_eq, decide_eq_false_iff_not, gj, ij, cj, jj, aj, sj, leapS] at *); first | done | omega))); intro t9 h9 tk9 F9 N9; (try dsimp only); (try k_fold))))
local macro_rules | `(tactic| walk_at "call ref") => `(tactic| (k_here; (with_reducible show wpAny _ _ (PySem.call (Value.ref 297) [Value.int _ _]) _ _ _); k_dflt (refine' use (c_jd _ _ ?hd) ?k1 ?k2 ?k3 ?k4 ?k5 ?kK ?kd ?ku ?_; (case k1 => k_asm); (case k2 => k_asm); (case k3 => k_asm); (case k4 => k_asm); (case k5 => k_asm); (case kK => first | exact rfl | assumption); (case kd => first | ((with_reducible refine' room_dp ?rdh ?rdk); (case rdh => with_reducible assumption); (case rdk => decide)) | ktr_room); (case ku => first | ((with_reducible refine' room_un ?ruh ?ruk); (case ruh => with_reducible assumption); (case ruk => decide)) | ktr_units); (case hd => (law_clear; first | omega | ((try simp only [decide_eq_true_eq, decide_eq_false_iff_not, gj, ij, cj, jj, aj, sj, leapS] at *); first | done | omega))); intro t9 h9 tk9 F9 N9; (try dsimp only); (try k_fold))))
local macro_rules | `(tactic| walk_at "call ref") => `(tactic| (k_here; (with_reducible show wpAny _ _ (PySem.call (Value.ref 325) [Value.ref _, Value.int 1922868 _, Value.int 1 _, Value.ref 283]) _ _ _); k_dflt (refine' use (c_count_arm _ _ _ _ _ _ _ _ _ ?hy ?hm ?hd) ?k1 ?k2 ?k3 ?k4 ?k5 ?kK ?kd ?ku ?_; (case k1 => k_asm); (case k2 => k_asm); (case k3 => k_asm); (case k4 => k_asm); (case k5 => k_asm); (case kK => first | exact rfl | assumption); (case kd => first | ((with_reducible refine' room_dp ?rdh ?rdk); (case rdh => with_reducible assumption); (case rdk => decide)) | ktr_room); (case ku => first | ((with_reducible refine' room_un ?ruh ?ruk); (case ruh => with_reducible assumption); (case ruk => decide)) | ktr_units); rotate_right; refine' ⟨?mT, ?_⟩; (case mT => first | k_mem | ((repeat (refine' List.Mem.tail _ ?_)); assumption)); intro t9 h9 tk9 F9 N9; (case hy => (law_clear; first | omega | ((try simp only [decide_eq_true_eq, decide_eq_false_iff_not, gj, ij, cj, jj, aj, sj, leapS] at *); first | done | omega))); (case hm => (law_clear; first | omega | ((try simp only [decide_eq_true_eq, decide_eq_false_iff_not, gj, ij, cj, jj, aj, sj, leapS] at *); first | done | omega))); (case hd => (law_clear; first | omega | ((try simp only [decide_eq_true_eq, decide_eq_false_iff_not, gj, ij, cj, jj, aj, sj, leapS] at *); first | done | omega))); (try dsimp only); (try k_fold))))
local macro_rules | `(tactic| walk_at "call ref") => `(tactic| (k_here; (with_reducible show wpAny _ _ (PySem.call (Value.ref 325) [Value.ref _, Value.int 1922868 _, Value.int 1 _, Value.ref 283]) _ _ _); k_dflt (refine' use (c_countN_arm _ _ _ _ _ _ _ _ _ ?hy ?hn) ?k1 ?k2 ?k3 ?k4 ?k5 ?kK ?kd ?ku ?_; (case k1 => k_asm); (case k2 => k_asm); (case k3 => k_asm); (case k4 => k_asm); (case k5 => k_asm); (case kK => first | exact rfl | assumption); (case kd => first | ((with_reducible refine' room_dp ?rdh ?rdk); (case rdh => with_reducible assumption); (case rdk => decide)) | ktr_room); (case ku => first | ((with_reducible refine' room_un ?ruh ?ruk); (case ruh => with_reducible assumption); (case ruk => decide)) | ktr_units); rotate_right; refine' ⟨?mT, ?_⟩; (case mT => first | k_mem | ((repeat (refine' List.Mem.tail _ ?_)); assumption)); intro t9 h9 tk9 F9 N9; (case hy => (law_clear; first | omega | ((try simp only [decide_eq_true_eq, decide_eq_false_iff_not, gj, ij, cj, jj, aj, sj, leapS] at *); first | done | omega))); (case hn => (law_clear; first | omega | ((try simp only [decide_eq_true_eq, decide_eq_false_iff_not, gj, ij, cj, jj, aj, sj, leapS] at *); first | done | omega))); (try dsimp only); (try k_fold))))
local macro_rules | `(tactic| walk_at "call ref") => `(tactic| (k_here; (with_reducible show wpAny _ _ (PySem.call (Value.ref 325) [Value.ref _, Value.int 2117212 _, Value.int 533 _, Value.ref 282]) _ _ _); k_dflt (refine' use (c_count_sar _ _ _ _ _ _ _ _ _ ?hy ?hm ?hd) ?k1 ?k2 ?k3 ?k4 ?k5 ?kK ?kd ?ku ?_; (case k1 => k_asm); (case k2 => k_asm); (case k3 => k_asm); (case k4 => k_asm); (case k5 => k_asm); (case kK => first | exact rfl | assumption); (case kd => first | ((with_reducible refine' room_dp ?rdh ?rdk); (case rdh => with_reducible assumption); (case rdk => decide)) | ktr_room); (case ku => first | ((with_reducible refine' room_un ?ruh ?ruk); (case ruh => with_reducible assumption); (case ruk => decide)) | ktr_units); rotate_right; refine' ⟨?mT, ?_⟩; (case mT => first | k_mem | ((repeat (refine' List.Mem.tail _ ?_)); assumption)); intro t9 h9 tk9 F9 N9; (case hy => (law_clear; first | omega | ((try simp only [decide_eq_true_eq, decide_eq_false_iff_not, gj, ij, cj, jj, aj, sj, leapS] at *); first | done | omega))); (case hm => (law_clear; first | omega | ((try simp only [decide_eq_true_eq, decide_eq_false_iff_not, gj, ij, cj, jj, aj, sj, leapS] at *); first | done | omega))); (case hd => (law_clear; first | omega | ((try simp only [decide_eq_true_eq, decide_eq_false_iff_not, gj, ij, cj, jj, aj, sj, leapS] at *); first | done | omega))); (try dsimp only); (try k_fold))))
local macro_rules | `(tactic| walk_at "call ref") => `(tactic| (k_here; (with_reducible show wpAny _ _ (PySem.call (Value.ref 325) [Value.ref _, Value.int 2117212 _, Value.int 533 _, Value.ref 282]) _ _ _); k_dflt (refine' use (c_countN_sar _ _ _ _ _ _ _ _ _ ?hy ?hn) ?k1 ?k2 ?k3 ?k4 ?k5 ?kK ?kd ?ku ?_; (case k1 => k_asm); (case k2 => k_asm); (case k3 => k_asm); (case k4 => k_asm); (case k5 => k_asm); (case kK => first | exact rfl | assumption); (case kd => first | ((with_reducible refine' room_dp ?rdh ?rdk); (case rdh => with_reducible assumption); (case rdk => decide)) | ktr_room); (case ku => first | ((with_reducible refine' room_un ?ruh ?ruk); (case ruh => with_reducible assumption); (case ruk => decide)) | ktr_units); rotate_right; refine' ⟨?mT, ?_⟩; (case mT => first | k_mem | ((repeat (refine' List.Mem.tail _ ?_)); assumption)); intro t9 h9 tk9 F9 N9; (case hy => (law_clear; first | omega | ((try simp only [decide_eq_true_eq, decide_eq_false_iff_not, gj, ij, cj, jj, aj, sj, leapS] at *); first | done | omega))); (case hn => (law_clear; first | omega | ((try simp only [decide_eq_true_eq, decide_eq_false_iff_not, gj, ij, cj, jj, aj, sj, leapS] at *); first | done | omega))); (try dsimp only); (try k_fold))))
local macro_rules | `(tactic| walk_at "eval Name") => `(tactic| (k_here; k_dflt (first | (name_kind "local"; refine' nameX_L ?F ?v ?_ ?a ?b ?c; (case F => k_asm); (case a => kernel_rfl); (case b => kernel_rfl); (case c => kernel_rfl); (case v => first | (refine' look_of ?gg ?ge; (case gg => (repeat (first | (with_reducible exact guess_hit_l) | (with_reducible apply guess_miss_l) | (with_reducible exact guess_hit_if) | ((with_reducible show Guess (@ite _ _ _ _ _) _); (with_reducible apply guess_miss_if))))); (case ge => kernel_rfl)) | exact rfl)) | (name_kind "globalImplicit"; refine' nameX_K ?F ?X ?T ?e ?_ ?a ?b ?c; (case F => k_asm); (case X => k_asm); (case T => k_asm); (case e => with_reducible (first | exact gn_law_count _ | exact gn_to_jd_armenian _ | exact gn_leap_armenian _ | exact gn_law_jd _)); (case a => kernel_rfl); (case b => kernel_rfl); (case c => kernel_rfl)) | (name_kind "globalImplicit"; refine' nameX_B ?F ?X ?T ?e ?v ?n ?_ ?a ?b ?c; (case F => k_asm); (case X => k_asm); (case T => k_asm); (case e => with_reducible (first | exact gb_ValueError _)); (case v => with_reducible (first | exact bb_ValueError)); (case a => kernel_rfl); (case b => kernel_rfl); (case n => decide); (case c => kernel_rfl)))))
set_option maxRecDepth 100000 in
set_option maxHeartbeats 8000000 in
theorem c_tripV_sar (T : Addr) (y m d : Int) (t u v z1 z2 z9 : Tok) (hy : 533 ≤ y ∧ y < 30000000) (hm : 1 ≤ m ∧ m ≤ 13) (hd : 1 ≤ d ∧ d ≤ mls y m) :
    Claim 372 [.ref T, .str (Str.ofString "sarkawag") z9, .int 2117212 z1, .int 533 z2, .ref 282] 9 (WithT T (tup3 y t m u d v) (RetV fun _ => .bool true)) := by
  refine gate_out ?_
  simp (disch := (k_dflt (
  intro prog w p loose mean mg mb dp un gd cn cs a ccd cl outer A₀ base h₀ L mm news s Q E B F X N T hk hdp hun hret
  obtain ⟨hT, hret⟩ := hret
  have hf : (y - 533).fmod 4 = (y - 533) % 4 := Int.fmod_eq_emod_of_nonneg _ (by decide)
  obtain ⟨p1, S1, x2, x3, b7⟩ := cnt_sar_S y
  have e3 : Hint (fourth.getD ((y - 533).fmod 4).toNat 0) S1 := ⟨by rw [hf, x2]; exact x3⟩
  have hl : m ≠ 13 ∨ d ≤ 5 ∨ (d ≤ 6 ∧ y % 4 = 0) := by
    have := hd.2; unfold mls at this; split at this <;> (try split at this) <;> omega
  have hd2 : d ≤ 30 := by
    have := hd.2; unfold mls at this; split at this <;> (try split at this) <;> omega
  have hlp : 533 ≤ y := hy.1
  (refine wpAny_call ?_; (k_dflt cell_enter); (try ((rename Fr _ _ _ _ => F8); (first | (have F9 := Fr_as F8 (m' := fun y9 => List.lookup y9 [(Str.ofString "cycle", (.ref 282 : Value)), (Str.ofString "start", (.int 533 z2 : Value)), (Str.ofString "first", (.int 2117212 z1 : Value)), (Str.ofString "method", (.str (Str.ofString "sarkawag") z9 : Value)), (Str.ofString "dated", (.ref T : Value))]) rfl) | (have F9 := Fr_as F8 (m' := fun y9 => List.lookup y9 [(Str.ofString "dated", (.ref T : Value)), (Str.ofString "method", (.str (Str.ofString "sarkawag") z9 : Value)), (Str.ofString "first", (.int 2117212 z1 : Value)), (Str.ofString "start", (.int 533 z2 : Value)), (Str.ofString "cycle", (.ref 282 : Value))]) rfl)); clear F8));  k_steps; all_goals (first | (((first | (with_reducible refine' hret 0 ?_ ?_ ?cbF ?cbN) | (with_reducible refine' hret _ ?_ ?_ ?cbF ?cbN))); (case cbF => k_asm); (case cbN => first | (with_reducible assumption) | (refine' cb_drop ?cbM ?cbS; (case cbM => assumption); (case cbS => (first | (intro p9 hp9; (repeat (with_reducible refine List.mem_cons_of_mem _ ?_)); exact hp9) | kcj_all))))) | cb_end hret))))) only [↓gate_true]
end
section
local macro_rules | `(tactic| walk_at "call ref") => `(tactic| (k_here; (with_reducible show wpAny _ _ (PySem.call (Value.ref 221) [Value.int _ _]) _ _ _); k_dflt (refine' use (c_leap_arm _ _) ?k1 ?k2 ?k3 ?k4 ?k5 ?kK ?kd ?ku ?_; (case k1 => k_asm); (case k2 => k_asm); (case k3 => k_asm); (case k4 => k_asm); (case k5 => k_asm); (case kK => first | exact rfl | assumption); (case kd => first | ((with_reducible refine' room_dp ?rdh ?rdk); (case rdh => with_reducible assumption); (case rdk => decide)) | ktr_room); (case ku => first | ((with_reducible refine' room_un ?ruh ?ruk); (case ruh => with_reducible assumption); (case ruk => decide)) | ktr_units); intro t9 h9 tk9 F9 N9; (try dsimp only); (try k_fold))))
local macro_rules | `(tactic| walk_at "call ref") => `(tactic| (k_here; (with_reducible show wpAny _ _ (PySem.call (Value.ref 297) [Value.int _ _]) _ _ _); k_dflt (refine' use (c_jd _ _ ?hd) ?k1 ?k2 ?k3 ?k4 ?k5 ?kK ?kd ?ku ?_; (case k1 => k_asm); (case k2 => k_asm); (case k3 => k_asm); (case k4 => k_asm); (case k5 => k_asm); (case kK => first | exact rfl | assumption); (case kd => first | ((with_reducible refine' room_dp ?rdh ?rdk); (case rdh => with_reducible assumption); (case rdk => decide)) | ktr_room); (case ku => first | ((with_reducible refine' room_un ?ruh ?ruk); (case ruh => with_reducible assumption); (case ruk => decide)) | ktr_units); (case hd => (law_clear; first | omega | ((try simp only [decide_eq_true_eq, decide_eq_false_iff_not, gj, ij, cj, jj, aj, sj, leapS] at *); first | done | omega))); intro t9 h9 tk9 F9 N9; (try dsimp only); (try k_fold))))
local macro_rules | `(tactic| walk_at "call ref") => `(tactic| (k_here; (with_reducible show wpAny _ _ (PySem.call (Value.ref 325) [Value.ref _, Value.int 1922868 _, Value.int 1 _, Value.ref 283]) _ _ _); k_dflt (refine' use (c_count_arm _ _ _ _ _ _ _ _ _ ?hy ?hm ?hd) ?k1 ?k2 ?k3 ?k4 ?k5 ?kK ?kd ?ku ?_; (case k1 => k_asm); (case k2 => k_asm); (case k3 => k_asm); (case k4 => k_asm); (case k5 => k_asm); (case kK => first | exact rfl | assumption); (case kd => first | ((with_reducible refine' room_dp ?rdh ?rdk); (case rdh => with_reducible assumption); (case rdk => decide)) | ktr_room); (case ku => first | ((with_reducible refine' room_un ?ruh ?ruk); (case ruh => with_reducible assumption); (case ruk => decide)) | ktr_units); rotate_right; refine' ⟨?mT, ?_⟩; (case mT => first | k_mem | ((repeat (refine' List.Mem.tail _ ?_)); assumption)); intro t9 h9 tk9 F9 N9; (case hy => (law_clear; first | omega | ((try simp only [decide_eq_true_eq, decide_eq_false_iff_not, gj, ij, cj, jj, aj, sj, leapS] at *); first | done | omega))); (case hm => (law_clear; first | omega | ((try simp only [decide_eq_true_eq, decide_eq_false_iff_not, gj, ij, cj, jj, aj, sj, leapS] at *); first | done | omega))); (case hd => (law_clear; first | omega | ((try simp only [decide_eq_true_eq, decide_eq_false_iff_not, gj, ij, cj, jj, aj, sj, leapS] at *); first | done | omega))); (try dsimp only); (try k_fold))))
local macro_rules | `(tactic| walk_at "call ref") => `(tactic| (k_here; (with_reducible show wpAny _ _ (PySem.call (Value.ref 325) [Value.ref _, Value.int 1922868 _, Value.int 1 _, Value.ref 283]) _ _ _); k_dflt (refine' use (c_countN_arm _ _ _ _ _ _ _ _ _ ?hy ?hn) ?k1 ?k2 ?k3 ?k4 ?k5 ?kK ?kd ?ku ?_; (case k1 => k_asm); (case k2 => k_asm); (case k3 => k_asm); (case k4 => k_asm); (case k5 => k_asm); (case kK => first | exact rfl | assumption); (case kd => first | ((with_reducible refine' room_dp ?rdh ?rdk); (case rdh => with_reducible assumption); (case rdk => decide)) | ktr_room); (case ku => first | ((with_reducible refine' room_un ?ruh ?ruk); (case ruh => with_reducible assumption); (case ruk => decide)) | ktr_units); rotate_right; refine' ⟨?mT, ?_⟩; (case mT => first | k_mem | ((repeat (refine' List.Mem.tail _ ?_)); assumption)); intro t9 h9 tk9 F9 N9; (case hy => (law_clear; first | omega | ((try simp only [decide_eq_true_eq, decide_eq_false_iff_not, gj, ij, cj, jj, aj, sj, leapS] at *); first | done | omega))); (case hn => (law_clear; first | omega | ((try simp only [decide_eq_true_eq, decide_eq_false_iff_not, gj, ij, cj, jj, aj, sj, leapS] at *); first | done | omega))); (try dsimp only); (try k_fold))))
local macro_rules | `(tactic| walk_at "call ref") => `(tactic| (k_here; (with_reducible show wpAny _ _ (PySem.call (Value.ref 325) [Value.ref _, Value.int 2117212 _, Value.int 533 _, Value.ref 282]) _ _ _); k_dflt (refine' use (c_count_sar _ _ _ _ _ _ _ _ _ ?hy ?hm ?hd) ?k1 ?k2 ?k3 ?k4 ?k5 ?kK ?kd ?ku ?_; (case k1 => k_asm); (case k2 => k_asm); (case k3 => k_asm); (case k4 => k_asm); (case k5 => k_asm); (case kK => first | exact rfl | assumption); (case kd => first | ((with_reducible refine' room_dp ?rdh ?rdk); (case rdh => with_reducible assumption); (case rdk => decide)) | ktr_room); (case ku => first | ((with_reducible refine' room_un ?ruh ?ruk); (case ruh => with_reducible assumption); (case ruk => decide)) | ktr_units); rotate_right; refine' ⟨?mT, ?_⟩; (case mT => first | k_mem | ((repeat (refine' List.Mem.tail _ ?_)); assumption)); intro t9 h9 tk9 F9 N9; (case hy => (law_clear; first | omega | ((try simp only [decide_eq_true_eq, decide_eq_false_iff_not, gj, ij, cj, jj, aj, sj, leapS] at *); first | done | omega))); (case hm => (law_clear; first | omega | ((try simp only [decide_eq_true_eq, decide_eq_false_iff_not, gj, ij, cj, jj, aj, sj, leapS] at *); first | done | omega))); (case hd => (law_clear; first | omega | ((try simp only [decide_eq_true_eq, decide_eq_false_iff_not, gj, ij, cj, jj, aj, sj, leapS] at *); first | done | omega))); (try dsimp only); (try k_fold))))
local macro_rules | `(tactic| walk_at "call ref") => `(tactic| (k_here; (with_reducible show wpAny _ _ (PySem.call (Value.ref 325) [Value.ref _, Value.int 2117212 _, Value.int 533 _, Value.ref 282]) _ _ _); k_dflt (refine' use (c_countN_sar _ _ _ _ _ _ _ _ _ ?hy ?hn) ?k1 ?k2 ?k3 ?k4 ?k5 ?kK ?kd ?ku ?_; (case k1 => k_asm); (case k2 => k_asm); (case k3 => k_asm); (case k4 => k_asm); (case k5 => k_asm); (case kK => first | exact rfl | assumption); (case kd => first | ((with_reducible refine' room_dp ?rdh ?rdk); (case rdh => with_reducible assumption); (case rdk => decide)) | ktr_room); (case ku => first | ((with_reducible refine' room_un ?ruh ?ruk); (case ruh => with_reducible assumption); (case ruk => decide)) | ktr_units); rotate_right; refine' ⟨?mT, ?_⟩; (case mT => first | k_mem | ((repeat (refine' List.Mem.tail _ ?_)); assumption)); intro t9 h9 tk9 F9 N9; (case hy => (law_clear; first | omega | ((try simp only [decide_eq_true_eq, decide_eq_false_iff_not, gj, ij, cj, jj, aj, sj, leapS] at *); first | done | omega))); (case hn => (law_clear; first | omega | ((try simp only [decide_eq_true_eq, decide_eq_false_iff_not, gj, ij, cj, jj, aj, sj, leapS] at *); first | done | omega))); (try dsimp only); (try k_fold))))
local macro_rules | `(tactic| walk_at "eval Name") => `(tactic| (k_here; k_dflt (first | (name_kind "local"; refine' nameX_L ?F ?v ?_ ?a ?b ?c; (case F => k_asm); (case a => kernel_rfl); (case b => kernel_rfl); (case c => kernel_rfl); (case v => first | (refine' look_of ?gg ?ge; (case gg => (repeat (first | (with_reducible exact guess_hit_l) | (with_reducible apply guess_miss_l) | (with_reducible exact guess_hit_if) | ((with_reducible show Guess (@ite _ _ _ _ _) _); (with_reducible apply guess_miss_if))))); (case ge => kernel_rfl)) | exact rfl)) | (name_kind "globalImplicit"; refine' nameX_K ?F ?X ?T ?e ?_ ?a ?b ?c; (case F => k_asm); (case X => k_asm); (case T => k_asm); (case e => with_reducible (first | exact gn_law_count _ | exact gn_to_jd_armenian _ | exact gn_leap_armenian _ | exact gn_law_jd _)); (case a => kernel_rfl); (case b => kernel_rfl); (case c => kernel_rfl)) | (name_kind "globalImplicit"; refine' nameX_B ?F ?X ?T ?e ?v ?n ?_ ?a ?b ?c; (case F => k_asm); (case X => k_asm); (case T => k_asm); (case e => with_reducible (first | exact gb_ValueError _)); (case v => with_reducible (first | exact bb_ValueError)); (case a => kernel_rfl); (case b => kernel_rfl); (case n => decide); (case c => kernel_rfl)))))
local macro_rules | `(tactic| walk_at "eval Name") => `(tactic| (k_here; k_dflt (first | (name_kind "local"; refine' nameX_L ?F ?v ?_ ?a ?b ?c; (case F => k_asm); (case a => kernel_rfl); (case b => kernel_rfl); (case c => kernel_rfl); (case v => first | (refine' look_of ?gg ?ge; (case gg => (repeat (first | (with_reducible exact guess_hit_l) | (with_reducible apply guess_miss_l) | (with_reducible exact guess_hit_if) | ((with_reducible show Guess (@ite _ _ _ _ _) _); (with_reducible apply guess_miss_if))))); (case ge => kernel_rfl)) | exact rfl)) | (name_kind "globalImplicit"; refine' nameX_K ?F ?X ?T ?e ?_ ?a ?b ?c; (case F => k_asm); (case X => k_asm); (case T => k_asm); (case e => with_reducible (first | exact gn_valid_date _ | exact gn_trunc _ | exact gn_EPOCH_armenian _ | exact gn_EPOCH_SARKAWAG _)); (case a => kernel_rfl); (case b => kernel_rfl); (case c => kernel_rfl)))))
local macro_rules | `(tactic| walk_at "call ref") => `(tactic| (k_here; (with_reducible show wpAny _ _ (PySem.call (Value.ref 229) _) _ _ _); refine wpAny_call ?_; k_dflt (refine' code_defS ?k1 ?k2 ?k3 ?k4 ?k5 ?XB ?TB ?D ?T0 ?kA ?k6 ?k7 ?k8 ?k9 ?kB ?_ ?cK ?c2 ?c3 ?c4 ?c5; (case kA => exact rfl); (case k2 => k_asm); (case k1 => k_asm); (case XB => assumption); (case TB => assumption); (case D => assumption); (case T0 => first | assumption | exact KtsTurn.refl); (case k3 => k_asm); (case k4 => k_asm); (case k5 => k_asm); (case k6 => k_is); (case k7 => k_is); (case k8 => ktr_room); (case k9 => first | exact binds_K (by k_in) rfl (by k_is) rfl rfl rfl | exact BindsTo.of_eq rfl); (case kB => exact locs rfl); (case cK => exact rfl); (case c2 => exact rfl); (case c3 => exact rfl); (case c4 => exact rfl); (case c5 => decide); k_whole; intro g' L' h' FG' F' N' B' X' T' D'; (try dsimp only); (try k_lift B'); (try k_fold))))
local macro_rules | `(tactic| walk_at "eval Name") => `(tactic| (k_here; k_dflt (first | (name_kind "local"; refine' nameX_L ?F ?v ?_ ?a ?b ?c; (case F => k_asm); (case a => kernel_rfl); (case b => kernel_rfl); (case c => kernel_rfl); (case v => first | (refine' look_of ?gg ?ge; (case gg => (repeat (first | (with_reducible exact guess_hit_l) | (with_reducible apply guess_miss_l) | (with_reducible exact guess_hit_if) | ((with_reducible show Guess (@ite _ _ _ _ _) _); (with_reducible apply guess_miss_if))))); (case ge => kernel_rfl)) | exact rfl)) | (name_kind "globalImplicit"; refine' nameX_K ?F ?X ?T ?e ?_ ?a ?b ?c; (case F => k_asm); (case X => k_asm); (case T => k_asm); (case e => with_reducible (first | exact gn_leap_armenian _)); (case a => kernel_rfl); (case b => kernel_rfl); (case c => kernel_rfl)) | (name_kind "globalImplicit"; refine' nameX_B ?F ?X ?T ?e ?v ?n ?_ ?a ?b ?c; (case F => k_asm); (case X => k_asm); (case T => k_asm); (case e => with_reducible (first | exact gb_AssertionError _ | exact gb_ValueError _)); (case v => with_reducible (first | exact bb_AssertionError | exact bb_ValueError)); (case a => kernel_rfl); (case b => kernel_rfl); (case n => decide); (case c => kernel_rfl)))))
local macro_rules | `(tactic| walk_at "call ref") => `(tactic| (k_here; (with_reducible show wpAny _ _ (PySem.call (Value.ref 214) _) _ _ _); refine wpAny_call ?_; k_dflt (refine' code_defS ?k1 ?k2 ?k3 ?k4 ?k5 ?XB ?TB ?D ?T0 ?kA ?k6 ?k7 ?k8 ?k9 ?kB ?_ ?cK ?c2 ?c3 ?c4 ?c5; (case kA => exact rfl); (case k2 => k_asm); (case k1 => k_asm); (case XB => assumption); (case TB => assumption); (case D => assumption); (case T0 => first | assumption | exact KtsTurn.refl); (case k3 => k_asm); (case k4 => k_asm); (case k5 => k_asm); (case k6 => k_is); (case k7 => k_is); (case k8 => ktr_room); (case k9 => first | exact binds_K (by k_in) rfl (by k_is) rfl rfl rfl | exact BindsTo.of_eq rfl); (case kB => exact locs rfl); (case cK => exact rfl); (case c2 => exact rfl); (case c3 => exact rfl); (case c4 => exact rfl); (case c5 => decide); k_whole; intro g' L' h' FG' F' N' B' X' T' D'; (try dsimp only); (try k_lift B'); (try k_fold))))
local macro_rules | `(tactic| walk_at "noteFrame ref") => `(tactic| (k_here; (rename Heap.NewExc _ _ _ _ => nx9); (with_reducible show wpAny _ _ (noteFrame _ _) (fun _ s₂ => wpAny _ _ (setFlight _ none) (fun _ s₃ => wpAny _ _ (handleBy _ _ (ExceptHandler.ExceptHandler (some (Expr.Name _ _)) (some _) _ _ :: _)) _ _ s₃) _ s₂) _ _); k_dflt (refine' caught_new (T' := "AssertionError") ?cnK ?cnF nx9 ?cnN ?cnXB ?cnTB ?cnD ?cnT ?cnx PyProof.Rows.Boot.«AssertionError» ?cnn PySem.F.isExc_AssertionError PySem.F.notTuple_AssertionError ?cns ?_; (case cnK => assumption); (case cnF => assumption); (case cnN => k_asm); (case cnXB => assumption); (case cnTB => assumption); (case cnD => assumption); (case cnT => first | assumption | exact KtsTurn.refl); (case cns => kts_sub); (case cnx => k_is); (case cnn => decide)); intro h' g' tk' t' T9 ob9 oc9 od9 T' F' N' K' X' P' D'; (try k_lift K'); (try k_sweep); (try dsimp only)))
local macro_rules | `(tactic| walk_at "exec Raise some some") => `(tactic| (k_here; k_dflt (refine' Raise_from (Y := "AssertionError") ?rfh PyProof.Rows.excClass_ValueError ?rfs ?rfe ?rfc ?rfd PySem.F.isExc_AssertionError ?rfx ?rfn ?_; (case rfh => exact rfl); (case rfs => (rw [isSubtype_type]; kernel_rfl)); (case rfe => exact News.get (by k_asm) (by k_mem)); (case rfc => assumption); (case rfd => assumption); (case rfx => (walk_at "eval Name"; exact ⟨rfl, rfl⟩)); (case rfn => (walk_at "eval Name"; exact ⟨rfl, rfl⟩)); intro h8 e8 ob8 t8 new8 keep8 get8 cls8 dat8; refine' suite_raised ?srK ?srF ?srN new8 keep8 get8 cls8 dat8 ?_; (case srK => assumption); (case srF => assumption); (case srN => k_asm); intro G9 m9 h9 tk9 R9 F9 U9; (try dsimp only))))
local macro_rules | `(tactic| walk_at "leaving ref") => `(tactic| (k_here; k_dflt (refine' leave_turned ?ltK ?ltF ?ltT ?ltR ?ltU ?_; (case ltR => assumption); (case ltU => assumption); (case ltT => assumption); (case ltF => assumption); (case ltK => assumption)); intro g9 h9 T9 R9 U9; (try dsimp only)))
local macro_rules | `(tactic| walk_at "noteFrame ref") => `(tactic| (k_here; (with_reducible show wpAny _ _ (noteFrame _ _) (fun _ s₂ => wpAny _ _ (setFlight _ none) (fun _ s₃ => wpAny _ _ (handleBy _ _ (ExceptHandler.ExceptHandler (some (Expr.Name _ _)) none _ _ :: _)) _ _ s₃) _ s₂) _ _); k_dflt (refine' caught_turned (T' := "ValueError") ?ctK ?ctF ?ctT ?ctR ?ctU ?ctX ?ctB ?ctD ?ct0 ?cte PyProof.Rows.Boot.«ValueError» ?ctn PySem.F.isExc_ValueError PySem.F.notTuple_ValueError ?cts ?_; (case ctR => assumption); (case ctU => assumption); (case ctT => assumption); (case ctF => assumption); (case ctK => assumption); (case ctX => assumption); (case ctB => assumption); (case ctD => assumption); (case ct0 => first | assumption | exact KtsTurn.refl); (case cts => kts_sub); (case cte => k_is); (case ctn => decide)); intro h' g' T' F' N' K' X' P' D'; (try k_lift K'); (try k_sweep); (try dsimp only)))
set_option maxRecDepth 100000 in
set_option maxHeartbeats 8000000 in
theorem c_tripN_sar (T : Addr) (y m d : Int) (t u v z1 z2 z9 : Tok) (hy : -30000000 < y ∧ y < 30000000) (hm : -100 < m ∧ m < 100) (hd : -100 < d ∧ d < 100) (hn : y < 533 ∨ m < 1 ∨ 13 < m ∨ d < 1 ∨ mls y m < d) :
    Claim0 372 [.ref T, .str (Str.ofString "sarkawag") z9, .int 2117212 z1, .int 533 z2, .ref 282] 9 (WithT T (tup3 y t m u d v) (RetV fun _ => .bool true)) := by
  refine gate_out ?_
  simp (disch := (k_dflt (
  intro prog w p loose mean mg mb dp un gd cn cs a ccd A₀ base h₀ L mm news s Q E B F X N T XB TB hk hdp hun hret
  obtain ⟨hT, hret⟩ := hret
  have hf : (y - 533).fmod 4 = (y - 533) % 4 := Int.fmod_eq_emod_of_nonneg _ (by decide)
  obtain ⟨p1, S1, x2, x3, b7⟩ := cnt_sar_S y
  have e3 : Hint (fourth.getD ((y - 533).fmod 4).toNat 0) S1 := ⟨by rw [hf, x2]; exact x3⟩
  have hml : (m = 13 ∧ 533 ≤ y ∧ y % 4 = 0 ∧ mls y m = 6) ∨ (m = 13 ∧ ¬ (533 ≤ y ∧ y % 4 = 0) ∧ mls y m = 5) ∨ (m ≠ 13 ∧ mls y m = 30) := by
    unfold mls; split
    · split <;> omega
    · omega
  have hjL : JoinB 350 32 false := ⟨⟩
  rcases (show (m < 1 ∨ 13 < m) ∨ ((1 ≤ m ∧ m ≤ 13) ∧ y < 533) ∨ ((1 ≤ m ∧ m ≤ 13) ∧ 533 ≤ y ∧ (d < 1 ∨ mls y m < d)) by omega) with hc | hc | hc
  · have hjA : JoinB 169 15 false := ⟨⟩
    (refine wpAny_call ?_; k_dflt (refine' code_defS0 ?k1 ?k2 ?k3 ?k4 ?k5 ?kA ?k6 ?k7 ?k8 ?k9 ?kB ?_ ?cK ?c2 ?c3 ?c4 ?c5; (case kA => exact rfl); (case k2 => k_asm); (case k1 => k_asm); (case k3 => k_asm); (case k4 => k_asm); (case k5 => k_asm); (case k6 => k_is); (case k7 => k_is); (case k8 => ktr_room); (case k9 => exact BindsTo.of_eq rfl); (case kB => exact locs rfl); (case cK => assumption); (case c2 => exact rfl); (case c3 => exact rfl); (case c4 => exact rfl); (case c5 => decide); k_whole; intro g' L' h' FG' F' N' B' X' T' D'; (try dsimp only); (try k_lift B'); (try k_fold)); (try ((rename Fr _ _ _ _ => F8); (first | (have F9 := Fr_as F8 (m' := fun y9 => List.lookup y9 [(Str.ofString "cycle", (.ref 282 : Value)), (Str.ofString "start", (.int 533 z2 : Value)), (Str.ofString "first", (.int 2117212 z1 : Value)), (Str.ofString "method", (.str (Str.ofString "sarkawag") z9 : Value)), (Str.ofString "dated", (.ref T : Value))]) rfl) | (have F9 := Fr_as F8 (m' := fun y9 => List.lookup y9 [(Str.ofString "dated", (.ref T : Value)), (Str.ofString "method", (.str (Str.ofString "sarkawag") z9 : Value)), (Str.ofString "first", (.int 2117212 z1 : Value)), (Str.ofString "start", (.int 533 z2 : Value)), (Str.ofString "cycle", (.ref 282 : Value))]) rfl)); clear F8));  k_steps; all_goals first | (refine' join_end ?jF ?jN ?jm ?jk; (case jF => k_asm); (case jN => k_asm); (case jm => first | (intro y; exact rfl) | exact join_same rfl); (case jk => (law_clear; first | omega | ((repeat' split at *) <;> omega)))) | (refine' join_bool ?jF ?jN ?jk; (case jF => k_asm); (case jN => k_asm); (case jk => first | exact rfl | (exfalso; law_clear; omega) | (law_clear; (try simp only [decide_eq_true_eq, decide_eq_false_iff_not, Bool.not_eq_true, Bool.not_eq_false, Bool.not_eq_eq_eq_not, Bool.not_false, Bool.not_true, beq_iff_eq, decide_eq_decide, bne_eq_false_iff_eq]); omega))) | (first | (((first | (with_reducible refine' hret 0 ?_ ?_ ?cbF ?cbN) | (with_reducible refine' hret _ ?_ ?_ ?cbF ?cbN))); (case cbF => k_asm); (case cbN => first | (with_reducible assumption) | (refine' cb_drop ?cbM ?cbS; (case cbM => assumption); (case cbS => (first | (intro p9 hp9; (repeat (with_reducible refine List.mem_cons_of_mem _ ?_)); exact hp9) | kcj_all))))) | cb_end hret))
  · have hjD : JoinAt 176 (Str.ofString "day_max") (mls y m) := ⟨⟩
    (refine wpAny_call ?_; k_dflt (refine' code_defS0 ?k1 ?k2 ?k3 ?k4 ?k5 ?kA ?k6 ?k7 ?k8 ?k9 ?kB ?_ ?cK ?c2 ?c3 ?c4 ?c5; (case kA => exact rfl); (case k2 => k_asm); (case k1 => k_asm); (case k3 => k_asm); (case k4 => k_asm); (case k5 => k_asm); (case k6 => k_is); (case k7 => k_is); (case k8 => ktr_room); (case k9 => exact BindsTo.of_eq rfl); (case kB => exact locs rfl); (case cK => assumption); (case c2 => exact rfl); (case c3 => exact rfl); (case c4 => exact rfl); (case c5 => decide); k_whole; intro g' L' h' FG' F' N' B' X' T' D'; (try dsimp only); (try k_lift B'); (try k_fold)); (try ((rename Fr _ _ _ _ => F8); (first | (have F9 := Fr_as F8 (m' := fun y9 => List.lookup y9 [(Str.ofString "cycle", (.ref 282 : Value)), (Str.ofString "start", (.int 533 z2 : Value)), (Str.ofString "first", (.int 2117212 z1 : Value)), (Str.ofString "method", (.str (Str.ofString "sarkawag") z9 : Value)), (Str.ofString "dated", (.ref T : Value))]) rfl) | (have F9 := Fr_as F8 (m' := fun y9 => List.lookup y9 [(Str.ofString "dated", (.ref T : Value)), (Str.ofString "method", (.str (Str.ofString "sarkawag") z9 : Value)), (Str.ofString "first", (.int 2117212 z1 : Value)), (Str.ofString "start", (.int 533 z2 : Value)), (Str.ofString "cycle", (.ref 282 : Value))]) rfl)); clear F8));  k_steps; all_goals first | (refine' join_end ?jF ?jN ?jm ?jk; (case jF => k_asm); (case jN => k_asm); (case jm => first | (intro y; exact rfl) | exact join_same rfl); (case jk => (law_clear; first | omega | ((repeat' split at *) <;> omega)))) | (refine' join_bool ?jF ?jN ?jk; (case jF => k_asm); (case jN => k_asm); (case jk => first | exact rfl | (exfalso; law_clear; omega) | (law_clear; (try simp only [decide_eq_true_eq, decide_eq_false_iff_not, Bool.not_eq_true, Bool.not_eq_false, Bool.not_eq_eq_eq_not, Bool.not_false, Bool.not_true, beq_iff_eq, decide_eq_decide, bne_eq_false_iff_eq]); omega))) | (first | (((first | (with_reducible refine' hret 0 ?_ ?_ ?cbF ?cbN) | (with_reducible refine' hret _ ?_ ?_ ?cbF ?cbN))); (case cbF => k_asm); (case cbN => first | (with_reducible assumption) | (refine' cb_drop ?cbM ?cbS; (case cbM => assumption); (case cbS => (first | (intro p9 hp9; (repeat (with_reducible refine List.mem_cons_of_mem _ ?_)); exact hp9) | kcj_all))))) | cb_end hret))
  · have hjD : JoinAt 176 (Str.ofString "day_max") (mls y m) := ⟨⟩
    have hjA : JoinB 187 15 false := ⟨⟩
    (refine wpAny_call ?_; k_dflt (refine' code_defS0 ?k1 ?k2 ?k3 ?k4 ?k5 ?kA ?k6 ?k7 ?k8 ?k9 ?kB ?_ ?cK ?c2 ?c3 ?c4 ?c5; (case kA => exact rfl); (case k2 => k_asm); (case k1 => k_asm); (case k3 => k_asm); (case k4 => k_asm); (case k5 => k_asm); (case k6 => k_is); (case k7 => k_is); (case k8 => ktr_room); (case k9 => exact BindsTo.of_eq rfl); (case kB => exact locs rfl); (case cK => assumption); (case c2 => exact rfl); (case c3 => exact rfl); (case c4 => exact rfl); (case c5 => decide); k_whole; intro g' L' h' FG' F' N' B' X' T' D'; (try dsimp only); (try k_lift B'); (try k_fold)); (try ((rename Fr _ _ _ _ => F8); (first | (have F9 := Fr_as F8 (m' := fun y9 => List.lookup y9 [(Str.ofString "cycle", (.ref 282 : Value)), (Str.ofString "start", (.int 533 z2 : Value)), (Str.ofString "first", (.int 2117212 z1 : Value)), (Str.ofString "method", (.str (Str.ofString "sarkawag") z9 : Value)), (Str.ofString "dated", (.ref T : Value))]) rfl) | (have F9 := Fr_as F8 (m' := fun y9 => List.lookup y9 [(Str.ofString "dated", (.ref T : Value)), (Str.ofString "method", (.str (Str.ofString "sarkawag") z9 : Value)), (Str.ofString "first", (.int 2117212 z1 : Value)), (Str.ofString "start", (.int 533 z2 : Value)), (Str.ofString "cycle", (.ref 282 : Value))]) rfl)); clear F8));  k_steps; all_goals first | (refine' join_end ?jF ?jN ?jm ?jk; (case jF => k_asm); (case jN => k_asm); (case jm => first | (intro y; exact rfl) | exact join_same rfl); (case jk => (law_clear; first | omega | ((repeat' split at *) <;> omega)))) | (refine' join_bool ?jF ?jN ?jk; (case jF => k_asm); (case jN => k_asm); (case jk => first | exact rfl | (exfalso; law_clear; omega) | (law_clear; (try simp only [decide_eq_true_eq, decide_eq_false_iff_not, Bool.not_eq_true, Bool.not_eq_false, Bool.not_eq_eq_eq_not, Bool.not_false, Bool.not_true, beq_iff_eq, decide_eq_decide, bne_eq_false_iff_eq]); omega))) | (first | (((first | (with_reducible refine' hret 0 ?_ ?_ ?cbF ?cbN) | (with_reducible refine' hret _ ?_ ?_ ?cbF ?cbN))); (case cbF => k_asm); (case cbN => first | (with_reducible assumption) | (refine' cb_drop ?cbM ?cbS; (case cbM => assumption); (case cbS => (first | (intro p9 hp9; (repeat (with_reducible refine List.mem_cons_of_mem _ ?_)); exact hp9) | kcj_all))))) | cb_end hret))))) only [↓gate_true]
end
theorem c_arm_arm (day : Int) (R La : Addr) (t z1 z2 z3 u1 u2 u3 v1 v2 v3 : Tok) (hd : -9000000000 < day ∧ day < 9000000000) :
    Claim0 365 [.int day t, .none, .int 1922502 z1, .int 1922868 z2, .int 1 z3, .ref 283, .ref R, .ref La] 9 (WithT R (tup3 (romY day) u1 (romM day) u2 (romD day) u3) (WithT La (tup3 (latY day) v1 (latM day) v2 (latD day) v3) (RetV fun _ => .bool true))) := by
  rcases (show day < 1922502 ∨ (1922502 ≤ day ∧ day < 1922868) ∨ 1922868 ≤ day by omega) with h | h | h
  · exact c_lo_arm day R La t z1 z2 z3 u1 u2 u3 v1 v2 v3 ⟨hd.1, h⟩
  · exact claim0_of (c_mid_arm day R La t z1 z2 z3 u1 u2 u3 v1 v2 v3 h)
  · exact claim0_of (c_hi_arm day R La t z1 z2 z3 u1 u2 u3 v1 v2 v3 ⟨h, hd.2⟩)
theorem c_trip_arm (T : Addr) (y m d : Int) (t u v z1 z2 : Tok) (hy : -30000000 < y ∧ y < 30000000) (hm : -100 < m ∧ m < 100) (hd : -100 < d ∧ d < 100) :
    Claim0 372 [.ref T, .none, .int 1922868 z1, .int 1 z2, .ref 283] 9 (WithT T (tup3 y t m u d v) (RetV fun _ => .bool true)) := by
  by_cases hv : 1 ≤ y ∧ 1 ≤ m ∧ m ≤ 13 ∧ 1 ≤ d ∧ d ≤ mla m
  · exact claim0_of (c_tripV_arm T y m d t u v z1 z2 ⟨hv.1, hy.2⟩ ⟨hv.2.1, hv.2.2.1⟩ ⟨hv.2.2.2.1, hv.2.2.2.2⟩)
  · exact c_tripN_arm T y m d t u v z1 z2 hy hm hd (by omega)
theorem c_arm_sar (day : Int) (R La : Addr) (t z1 z2 z3 u1 u2 u3 v1 v2 v3 z9 : Tok) (hd : -9000000000 < day ∧ day < 9000000000) :
    Claim0 365 [.int day t, .str (Str.ofString "sarkawag") z9, .int 2117211 z1, .int 2117212 z2, .int 533 z3, .ref 282, .ref R, .ref La] 9 (WithT R (tup3 (romY day) u1 (romM day) u2 (romD day) u3) (WithT La (tup3 (latY day) v1 (latM day) v2 (latD day) v3) (RetV fun _ => .bool true))) := by
  rcases (show day < 2117211 ∨ (2117211 ≤ day ∧ day < 2117212) ∨ 2117212 ≤ day by omega) with h | h | h
  · exact c_lo_sar day R La t z1 z2 z3 u1 u2 u3 v1 v2 v3 z9 ⟨hd.1, h⟩
  · exact claim0_of (c_mid_sar day R La t z1 z2 z3 u1 u2 u3 v1 v2 v3 z9 h)
  · exact claim0_of (c_hi_sar day R La t z1 z2 z3 u1 u2 u3 v1 v2 v3 z9 ⟨h, hd.2⟩)
theorem c_trip_sar (T : Addr) (y m d : Int) (t u v z1 z2 z9 : Tok) (hy : -30000000 < y ∧ y < 30000000) (hm : -100 < m ∧ m < 100) (hd : -100 < d ∧ d < 100) :
    Claim0 372 [.ref T, .str (Str.ofString "sarkawag") z9, .int 2117212 z1, .int 533 z2, .ref 282] 9 (WithT T (tup3 y t m u d v) (RetV fun _ => .bool true)) := by
  by_cases hv : 533 ≤ y ∧ 1 ≤ m ∧ m ≤ 13 ∧ 1 ≤ d ∧ d ≤ mls y m
  · exact claim0_of (c_tripV_sar T y m d t u v z1 z2 z9 ⟨hv.1, hy.2⟩ ⟨hv.2.1, hv.2.2.1⟩ ⟨hv.2.2.2.1, hv.2.2.2.2⟩)
  · exact c_tripN_sar T y m d t u v z1 z2 z9 hy hm hd (by omega)
section
local macro_rules | `(tactic| walk_at "call ref") => `(tactic| (k_here; (with_reducible show wpAny _ _ (PySem.call (Value.ref 199) [Value.int (romY _) _, Value.int (romM _) _, Value.int (romD _) _]) _ _ _); k_dflt (refine' use (c_fromgreg_jul _ _ _ _ ?hd) ?k1 ?k2 ?k3 ?k4 ?k5 ?kK ?kd ?ku ?_; (case k1 => k_asm); (case k2 => k_asm); (case k3 => k_asm); (case k4 => k_asm); (case k5 => k_asm); (case kK => first | exact rfl | assumption); (case kd => first | ((with_reducible refine' room_dp ?rdh ?rdk); (case rdh => with_reducible assumption); (case rdk => decide)) | ktr_room); (case ku => first | ((with_reducible refine' room_un ?ruh ?ruk); (case ruh => with_reducible assumption); (case ruk => decide)) | ktr_units); (case hd => (law_clear; first | omega | ((try simp only [decide_eq_true_eq, decide_eq_false_iff_not, gj, ij, cj, jj, aj, sj, leapS] at *); first | done | omega))); intro D9 t9 u9 v9 h9 tk9 F9 N9; (try dsimp only); (try k_fold))))
local macro_rules | `(tactic| walk_at "call ref") => `(tactic| (k_here; (with_reducible show wpAny _ _ (PySem.call (Value.ref 206) [Value.int (latY _) _, Value.int (latM _) _, Value.int (latD _) _]) _ _ _); k_dflt (refine' use (c_togreg_jul _ _ _ _ ?hd) ?k1 ?k2 ?k3 ?k4 ?k5 ?kK ?kd ?ku ?_; (case k1 => k_asm); (case k2 => k_asm); (case k3 => k_asm); (case k4 => k_asm); (case k5 => k_asm); (case kK => first | exact rfl | assumption); (case kd => first | ((with_reducible refine' room_dp ?rdh ?rdk); (case rdh => with_reducible assumption); (case rdk => decide)) | ktr_room); (case ku => first | ((with_reducible refine' room_un ?ruh ?ruk); (case ruh => with_reducible assumption); (case ruk => decide)) | ktr_units); (case hd => (law_clear; first | omega | ((try simp only [decide_eq_true_eq, decide_eq_false_iff_not, gj, ij, cj, jj, aj, sj, leapS] at *); first | done | omega))); intro D9 t9 u9 v9 h9 tk9 F9 N9; (try dsimp only); (try k_fold))))
local macro_rules | `(tactic| walk_at "call ref") => `(tactic| (k_here; (with_reducible show wpAny _ _ (PySem.call (Value.ref 290) [Value.ref _, Value.int _ _, Value.int _ _]) _ _ _); k_dflt (refine' use (c_near _ _ _ _ _ _ _ _ ?hi ?hl ?hp ?hw) ?k1 ?k2 ?k3 ?k4 ?k5 ?kK ?kd ?ku ?_; (case k1 => k_asm); (case k2 => k_asm); (case k3 => k_asm); (case k4 => k_asm); (case k5 => k_asm); (case kK => first | exact rfl | assumption); (case kd => first | ((with_reducible refine' room_dp ?rdh ?rdk); (case rdh => with_reducible assumption); (case rdk => decide)) | ktr_room); (case ku => first | ((with_reducible refine' room_un ?ruh ?ruk); (case ruh => with_reducible assumption); (case ruk => decide)) | ktr_units); (case hi => assumption); (case hl => (law_clear; first | omega | ((try simp only [decide_eq_true_eq, decide_eq_false_iff_not, gj, ij, cj, jj, aj, sj, leapS] at *); first | done | omega))); (case hp => (law_clear; first | omega | ((try simp only [decide_eq_true_eq, decide_eq_false_iff_not, gj, ij, cj, jj, aj, sj, leapS] at *); first | done | omega))); (case hw => (law_clear; first | omega | ((try simp only [decide_eq_true_eq, decide_eq_false_iff_not, gj, ij, cj, jj, aj, sj, leapS] at *); first | done | omega))); rotate_right; refine' ⟨?mL, ?_⟩; (case mL => k_mem); intro k9 t9 h9 tk9 hk9 hk8 F9 N9; (try dsimp only); (try k_fold))))
local macro_rules | `(tactic| walk_at "call ref") => `(tactic| (k_here; (with_reducible show wpAny _ _ (PySem.call (Value.ref 318) [Value.int _ _, Value.int 1948440 _, Value.int 1 _, Value.ref 280, Value.int 0 _]) _ _ _); k_dflt (refine' use (c_date_isl _ _ _ _ _ ?hd) ?k1 ?k2 ?k3 ?k4 ?k5 ?kK ?kd ?ku ?_; (case k1 => k_asm); (case k2 => k_asm); (case k3 => k_asm); (case k4 => k_asm); (case k5 => k_asm); (case kK => first | exact rfl | assumption); (case kd => first | ((with_reducible refine' room_dp ?rdh ?rdk); (case rdh => with_reducible assumption); (case rdk => decide)) | ktr_room); (case ku => first | ((with_reducible refine' room_un ?ruh ?ruk); (case ruh => with_reducible assumption); (case ruk => decide)) | ktr_units); (case hd => (law_clear; first | omega | ((try simp only [decide_eq_true_eq, decide_eq_false_iff_not, gj, ij, cj, jj, aj, sj, leapS] at *); first | done | omega))); intro D9 T9 L9 t9 u9 v9 vs9 n9 h9 tk9 hi9 F9 N9; (try dsimp only); (try k_fold))))
local macro_rules | `(tactic| walk_at "call ref") => `(tactic| (k_here; (with_reducible show wpAny _ _ (PySem.call (Value.ref 318) [Value.int _ _, Value.int 1825030 _, Value.int 1 _, Value.ref 281, Value.int 1 _]) _ _ _); k_dflt (refine' use (c_date_cop _ _ _ _ _ ?hd) ?k1 ?k2 ?k3 ?k4 ?k5 ?kK ?kd ?ku ?_; (case k1 => k_asm); (case k2 => k_asm); (case k3 => k_asm); (case k4 => k_asm); (case k5 => k_asm); (case kK => first | exact rfl | assumption); (case kd => first | ((with_reducible refine' room_dp ?rdh ?rdk); (case rdh => with_reducible assumption); (case rdk => decide)) | ktr_room); (case ku => first | ((with_reducible refine' room_un ?ruh ?ruk); (case ruh => with_reducible assumption); (case ruk => decide)) | ktr_units); (case hd => (law_clear; first | omega | ((try simp only [decide_eq_true_eq, decide_eq_false_iff_not, gj, ij, cj, jj, aj, sj, leapS] at *); first | done | omega))); intro D9 T9 L9 t9 u9 v9 vs9 n9 h9 tk9 hi9 F9 N9; (try dsimp only); (try k_fold))))
local macro_rules | `(tactic| walk_at "call ref") => `(tactic| (k_here; (with_reducible show wpAny _ _ (PySem.call (Value.ref 318) [Value.int _ _, Value.int 1721424 _, Value.int 1 _, Value.ref 282, Value.int 2 _]) _ _ _); k_dflt (refine' use (c_date_lat _ _ _ _ _ ?hd) ?k1 ?k2 ?k3 ?k4 ?k5 ?kK ?kd ?ku ?_; (case k1 => k_asm); (case k2 => k_asm); (case k3 => k_asm); (case k4 => k_asm); (case k5 => k_asm); (case kK => first | exact rfl | assumption); (case kd => first | ((with_reducible refine' room_dp ?rdh ?rdk); (case rdh => with_reducible assumption); (case rdk => decide)) | ktr_room); (case ku => first | ((with_reducible refine' room_un ?ruh ?ruk); (case ruh => with_reducible assumption); (case ruk => decide)) | ktr_units); (case hd => (law_clear; first | omega | ((try simp only [decide_eq_true_eq, decide_eq_false_iff_not, gj, ij, cj, jj, aj, sj, leapS] at *); first | done | omega))); intro D9 T9 L9 t9 u9 v9 vs9 n9 h9 tk9 hi9 F9 N9; (try dsimp only); (try k_fold))))
local macro_rules | `(tactic| walk_at "call ref") => `(tactic| (k_here; (with_reducible show wpAny _ _ (PySem.call (Value.ref 318) [Value.int _ _, Value.int 1922868 _, Value.int 1 _, Value.ref 283, Value.int 1 _]) _ _ _); k_dflt (refine' use (c_date_arm _ _ _ _ _ ?hd) ?k1 ?k2 ?k3 ?k4 ?k5 ?kK ?kd ?ku ?_; (case k1 => k_asm); (case k2 => k_asm); (case k3 => k_asm); (case k4 => k_asm); (case k5 => k_asm); (case kK => first | exact rfl | assumption); (case kd => first | ((with_reducible refine' room_dp ?rdh ?rdk); (case rdh => with_reducible assumption); (case rdk => decide)) | ktr_room); (case ku => first | ((with_reducible refine' room_un ?ruh ?ruk); (case ruh => with_reducible assumption); (case ruk => decide)) | ktr_units); (case hd => (law_clear; first | omega | ((try simp only [decide_eq_true_eq, decide_eq_false_iff_not, gj, ij, cj, jj, aj, sj, leapS] at *); first | done | omega))); intro D9 T9 L9 t9 u9 v9 vs9 n9 h9 tk9 hi9 F9 N9; (try dsimp only); (try k_fold))))
local macro_rules | `(tactic| walk_at "call ref") => `(tactic| (k_here; (with_reducible show wpAny _ _ (PySem.call (Value.ref 318) [Value.int _ _, Value.int 2117212 _, Value.int 533 _, Value.ref 282, Value.int 1 _]) _ _ _); k_dflt (refine' use (c_date_sar _ _ _ _ _ ?hd) ?k1 ?k2 ?k3 ?k4 ?k5 ?kK ?kd ?ku ?_; (case k1 => k_asm); (case k2 => k_asm); (case k3 => k_asm); (case k4 => k_asm); (case k5 => k_asm); (case kK => first | exact rfl | assumption); (case kd => first | ((with_reducible refine' room_dp ?rdh ?rdk); (case rdh => with_reducible assumption); (case rdk => decide)) | ktr_room); (case ku => first | ((with_reducible refine' room_un ?ruh ?ruk); (case ruh => with_reducible assumption); (case ruk => decide)) | ktr_units); (case hd => (law_clear; first | omega | ((try simp only [decide_eq_true_eq, decide_eq_false_iff_not, gj, ij, cj, jj, aj, sj, leapS] at *); first | done | omega))); intro D9 T9 L9 t9 u9 v9 vs9 n9 h9 tk9 hi9 F9 N9; (try dsimp only); (try k_fold))))
local macro_rules | `(tactic| walk_at "call ref") => `(tactic| (k_here; (with_reducible show wpAny _ _ (PySem.call (Value.ref 337) [Value.int _ _]) _ _ _); k_dflt (refine' use (c_roman _ _ ?hd) ?k1 ?k2 ?k3 ?k4 ?k5 ?kK ?kd ?ku ?_; (case k1 => k_asm); (case k2 => k_asm); (case k3 => k_asm); (case k4 => k_asm); (case k5 => k_asm); (case kK => first | exact rfl | assumption); (case kd => first | ((with_reducible refine' room_dp ?rdh ?rdk); (case rdh => with_reducible assumption); (case rdk => decide)) | ktr_room); (case ku => first | ((with_reducible refine' room_un ?ruh ?ruk); (case ruh => with_reducible assumption); (case ruk => decide)) | ktr_units); (case hd => (law_clear; first | omega | ((try simp only [decide_eq_true_eq, decide_eq_false_iff_not, gj, ij, cj, jj, aj, sj, leapS] at *); first | done | omega))); intro D9 t9 u9 v9 h9 tk9 F9 N9; (try dsimp only); (try k_fold))))
local macro_rules | `(tactic| walk_at "call ref") => `(tactic| (k_here; (with_reducible show wpAny _ _ (PySem.call (Value.ref 351) [Value.int _ _, Value.ref _]) _ _ _); k_dflt (refine' use (c_law_isl _ _ _ _ _ _ ?hd) ?k1 ?k2 ?k3 ?k4 ?k5 ?kK ?kd ?ku ?_; (case k1 => k_asm); (case k2 => k_asm); (case k3 => k_asm); (case k4 => k_asm); (case k5 => k_asm); (case kK => first | exact rfl | assumption); (case kd => first | ((with_reducible refine' room_dp ?rdh ?rdk); (case rdh => with_reducible assumption); (case rdk => decide)) | ktr_room); (case ku => first | ((with_reducible refine' room_un ?ruh ?ruk); (case ruh => with_reducible assumption); (case ruk => decide)) | ktr_units); (case hd => (law_clear; first | omega | ((try simp only [decide_eq_true_eq, decide_eq_false_iff_not, gj, ij, cj, jj, aj, sj, leapS] at *); first | done | omega))); rotate_right; refine' ⟨?mT, ?_⟩; (case mT => first | k_mem | ((repeat (refine' List.Mem.tail _ ?_)); assumption)); intro t9 h9 tk9 F9 N9; (try dsimp only); (try k_fold))))
local macro_rules | `(tactic| walk_at "call ref") => `(tactic| (k_here; (with_reducible show wpAny _ _ (PySem.call (Value.ref 358) [Value.int _ _, Value.ref _]) _ _ _); k_dflt (refine' use (c_law_cop _ _ _ _ _ _ ?hd) ?k1 ?k2 ?k3 ?k4 ?k5 ?kK ?kd ?ku ?_; (case k1 => k_asm); (case k2 => k_asm); (case k3 => k_asm); (case k4 => k_asm); (case k5 => k_asm); (case kK => first | exact rfl | assumption); (case kd => first | ((with_reducible refine' room_dp ?rdh ?rdk); (case rdh => with_reducible assumption); (case rdk => decide)) | ktr_room); (case ku => first | ((with_reducible refine' room_un ?ruh ?ruk); (case ruh => with_reducible assumption); (case ruk => decide)) | ktr_units); (case hd => (law_clear; first | omega | ((try simp only [decide_eq_true_eq, decide_eq_false_iff_not, gj, ij, cj, jj, aj, sj, leapS] at *); first | done | omega))); rotate_right; refine' ⟨?mT, ?_⟩; (case mT => first | k_mem | ((repeat (refine' List.Mem.tail _ ?_)); assumption)); intro t9 h9 tk9 F9 N9; (try dsimp only); (try k_fold))))
local macro_rules | `(tactic| walk_at "call ref") => `(tactic| (k_here; (with_reducible show wpAny _ _ (PySem.call (Value.ref 365) [Value.int _ _, Value.none, Value.int 1922502 _, Value.int 1922868 _, Value.int 1 _, Value.ref 283, Value.ref _, Value.ref _]) _ _ _); k_dflt (refine' use (c_hi_arm _ _ _ _ _ _ _ _ _ _ _ _ _ ?hd) ?k1 ?k2 ?k3 ?k4 ?k5 ?kK ?kd ?ku ?_; (case k1 => k_asm); (case k2 => k_asm); (case k3 => k_asm); (case k4 => k_asm); (case k5 => k_asm); (case kK => first | exact rfl | assumption); (case kd => first | ((with_reducible refine' room_dp ?rdh ?rdk); (case rdh => with_reducible assumption); (case rdk => decide)) | ktr_room); (case ku => first | ((with_reducible refine' room_un ?ruh ?ruk); (case ruh => with_reducible assumption); (case ruk => decide)) | ktr_units); (case hd => (law_clear; first | omega | ((try simp only [decide_eq_true_eq, decide_eq_false_iff_not, gj, ij, cj, jj, aj, sj, leapS] at *); first | done | omega))); rotate_right; refine' ⟨?mT, ?_⟩; (case mT => first | k_mem | ((repeat (refine' List.Mem.tail _ ?_)); assumption)); refine' ⟨?mU, ?_⟩; (case mU => first | k_mem | ((repeat (refine' List.Mem.tail _ ?_)); assumption)); intro t9 h9 tk9 F9 N9; (try dsimp only); (try k_fold))))
local macro_rules | `(tactic| walk_at "call ref") => `(tactic| (k_here; (with_reducible show wpAny _ _ (PySem.call (Value.ref 365) [Value.int _ _, Value.none, Value.int 1922502 _, Value.int 1922868 _, Value.int 1 _, Value.ref 283, Value.ref _, Value.ref _]) _ _ _); k_dflt (refine' use (c_mid_arm _ _ _ _ _ _ _ _ _ _ _ _ _ ?hd) ?k1 ?k2 ?k3 ?k4 ?k5 ?kK ?kd ?ku ?_; (case k1 => k_asm); (case k2 => k_asm); (case k3 => k_asm); (case k4 => k_asm); (case k5 => k_asm); (case kK => first | exact rfl | assumption); (case kd => first | ((with_reducible refine' room_dp ?rdh ?rdk); (case rdh => with_reducible assumption); (case rdk => decide)) | ktr_room); (case ku => first | ((with_reducible refine' room_un ?ruh ?ruk); (case ruh => with_reducible assumption); (case ruk => decide)) | ktr_units); (case hd => (law_clear; first | omega | ((try simp only [decide_eq_true_eq, decide_eq_false_iff_not, gj, ij, cj, jj, aj, sj, leapS] at *); first | done | omega))); rotate_right; refine' ⟨?mT, ?_⟩; (case mT => first | k_mem | ((repeat (refine' List.Mem.tail _ ?_)); assumption)); refine' ⟨?mU, ?_⟩; (case mU => first | k_mem | ((repeat (refine' List.Mem.tail _ ?_)); assumption)); intro t9 h9 tk9 F9 N9; (try dsimp only); (try k_fold))))
local macro_rules | `(tactic| walk_at "call ref") => `(tactic| (k_here; (with_reducible show wpAny _ _ (PySem.call (Value.ref 365) [Value.int _ _, Value.none, Value.int 1922502 _, Value.int 1922868 _, Value.int 1 _, Value.ref 283, Value.ref _, Value.ref _]) _ _ _); k_dflt (refine' use0 (c_lo_arm _ _ _ _ _ _ _ _ _ _ _ _ _ ?hd) ?k1 ?k2 ?k3 ?k4 ?k5 ?kXB ?kTB ?kK ?kd ?ku ?_; (case k1 => k_asm); (case k2 => k_asm); (case k3 => k_asm); (case k4 => k_asm); (case k5 => k_asm); (case kXB => k_asm); (case kTB => k_asm); (case kK => first | exact rfl | assumption); (case kd => first | ((with_reducible refine' room_dp ?rdh ?rdk); (case rdh => with_reducible assumption); (case rdk => decide)) | ktr_room); (case ku => first | ((with_reducible refine' room_un ?ruh ?ruk); (case ruh => with_reducible assumption); (case ruk => decide)) | ktr_units); (case hd => (law_clear; first | omega | ((try simp only [decide_eq_true_eq, decide_eq_false_iff_not, gj, ij, cj, jj, aj, sj, leapS] at *); first | done | omega))); rotate_right; refine' ⟨?mT, ?_⟩; (case mT => first | k_mem | ((repeat (refine' List.Mem.tail _ ?_)); assumption)); refine' ⟨?mU, ?_⟩; (case mU => first | k_mem | ((repeat (refine' List.Mem.tail _ ?_)); assumption)); intro t9 h9 tk9 F9 N9; (try dsimp only); (try k_fold))))
local macro_rules | `(tactic| walk_at "call ref") => `(tactic| (k_here; (with_reducible show wpAny _ _ (PySem.call (Value.ref 365) [Value.int _ _, Value.str (Str.ofString "sarkawag") _, Value.int 2117211 _, Value.int 2117212 _, Value.int 533 _, Value.ref 282, Value.ref _, Value.ref _]) _ _ _); k_dflt (refine' use (c_hi_sar _ _ _ _ _ _ _ _ _ _ _ _ _ _ ?hd) ?k1 ?k2 ?k3 ?k4 ?k5 ?kK ?kd ?ku ?_; (case k1 => k_asm); (case k2 => k_asm); (case k3 => k_asm); (case k4 => k_asm); (case k5 => k_asm); (case kK => first | exact rfl | assumption); (case kd => first | ((with_reducible refine' room_dp ?rdh ?rdk); (case rdh => with_reducible assumption); (case rdk => decide)) | ktr_room); (case ku => first | ((with_reducible refine' room_un ?ruh ?ruk); (case ruh => with_reducible assumption); (case ruk => decide)) | ktr_units); (case hd => (law_clear; first | omega | ((try simp only [decide_eq_true_eq, decide_eq_false_iff_not, gj, ij, cj, jj, aj, sj, leapS] at *); first | done | omega))); rotate_right; refine' ⟨?mT, ?_⟩; (case mT => first | k_mem | ((repeat (refine' List.Mem.tail _ ?_)); assumption)); refine' ⟨?mU, ?_⟩; (case mU => first | k_mem | ((repeat (refine' List.Mem.tail _ ?_)); assumption)); intro t9 h9 tk9 F9 N9; (try dsimp only); (try k_fold))))
local macro_rules | `(tactic| walk_at "call ref") => `(tactic| (k_here; (with_reducible show wpAny _ _ (PySem.call (Value.ref 365) [Value.int _ _, Value.str (Str.ofString "sarkawag") _, Value.int 2117211 _, Value.int 2117212 _, Value.int 533 _, Value.ref 282, Value.ref _, Value.ref _]) _ _ _); k_dflt (refine' use (c_mid_sar _ _ _ _ _ _ _ _ _ _ _ _ _ _ ?hd) ?k1 ?k2 ?k3 ?k4 ?k5 ?kK ?kd ?ku ?_; (case k1 => k_asm); (case k2 => k_asm); (case k3 => k_asm); (case k4 => k_asm); (case k5 => k_asm); (case kK => first | exact rfl | assumption); (case kd => first | ((with_reducible refine' room_dp ?rdh ?rdk); (case rdh => with_reducible assumption); (case rdk => decide)) | ktr_room); (case ku => first | ((with_reducible refine' room_un ?ruh ?ruk); (case ruh => with_reducible assumption); (case ruk => decide)) | ktr_units); (case hd => (law_clear; first | omega | ((try simp only [decide_eq_true_eq, decide_eq_false_iff_not, gj, ij, cj, jj, aj, sj, leapS] at *); first | done | omega))); rotate_right; refine' ⟨?mT, ?_⟩; (case mT => first | k_mem | ((repeat (refine' List.Mem.tail _ ?_)); assumption)); refine' ⟨?mU, ?_⟩; (case mU => first | k_mem | ((repeat (refine' List.Mem.tail _ ?_)); assumption)); intro t9 h9 tk9 F9 N9; (try dsimp only); (try k_fold))))
local macro_rules | `(tactic| walk_at "call ref") => `(tactic| (k_here; (with_reducible show wpAny _ _ (PySem.call (Value.ref 365) [Value.int _ _, Value.str (Str.ofString "sarkawag") _, Value.int 2117211 _, Value.int 2117212 _, Value.int 533 _, Value.ref 282, Value.ref _, Value.ref _]) _ _ _); k_dflt (refine' use0 (c_lo_sar _ _ _ _ _ _ _ _ _ _ _ _ _ _ ?hd) ?k1 ?k2 ?k3 ?k4 ?k5 ?kXB ?kTB ?kK ?kd ?ku ?_; (case k1 => k_asm); (case k2 => k_asm); (case k3 => k_asm); (case k4 => k_asm); (case k5 => k_asm); (case kXB => k_asm); (case kTB => k_asm); (case kK => first | exact rfl | assumption); (case kd => first | ((with_reducible refine' room_dp ?rdh ?rdk); (case rdh => with_reducible assumption); (case rdk => decide)) | ktr_room); (case ku => first | ((with_reducible refine' room_un ?ruh ?ruk); (case ruh => with_reducible assumption); (case ruk => decide)) | ktr_units); (case hd => (law_clear; first | omega | ((try simp only [decide_eq_true_eq, decide_eq_false_iff_not, gj, ij, cj, jj, aj, sj, leapS] at *); first | done | omega))); rotate_right; refine' ⟨?mT, ?_⟩; (case mT => first | k_mem | ((repeat (refine' List.Mem.tail _ ?_)); assumption)); refine' ⟨?mU, ?_⟩; (case mU => first | k_mem | ((repeat (refine' List.Mem.tail _ ?_)); assumption)); intro t9 h9 tk9 F9 N9; (try dsimp only); (try k_fold))))
local macro_rules | `(tactic| walk_at "call ref") => `(tactic| (k_here; (with_reducible show wpAny _ _ (PySem.call (Value.ref 372) [Value.ref _, Value.none, Value.int 1922868 _, Value.int 1 _, Value.ref 283]) _ _ _); k_dflt (refine' use (c_tripV_arm _ _ _ _ _ _ _ _ _ ?hy ?hm ?hd) ?k1 ?k2 ?k3 ?k4 ?k5 ?kK ?kd ?ku ?_; (case k1 => k_asm); (case k2 => k_asm); (case k3 => k_asm); (case k4 => k_asm); (case k5 => k_asm); (case kK => first | exact rfl | assumption); (case kd => first | ((with_reducible refine' room_dp ?rdh ?rdk); (case rdh => with_reducible assumption); (case rdk => decide)) | ktr_room); (case ku => first | ((with_reducible refine' room_un ?ruh ?ruk); (case ruh => with_reducible assumption); (case ruk => decide)) | ktr_units); rotate_right; refine' ⟨?mT, ?_⟩; (case mT => first | k_mem | ((repeat (refine' List.Mem.tail _ ?_)); assumption)); intro t9 h9 tk9 F9 N9; (case hy => (law_clear; first | omega | ((try simp only [decide_eq_true_eq, decide_eq_false_iff_not, gj, ij, cj, jj, aj, sj, leapS] at *); first | done | omega))); (case hm => (law_clear; first | omega | ((try simp only [decide_eq_true_eq, decide_eq_false_iff_not, gj, ij, cj, jj, aj, sj, leapS] at *); first | done | omega))); (case hd => (law_clear; first | omega | ((try simp only [decide_eq_true_eq, decide_eq_false_iff_not, gj, ij, cj, jj, aj, sj, leapS] at *); first | done | omega))); (try dsimp only); (try k_fold))))
local macro_rules | `(tactic| walk_at "call ref") => `(tactic| (k_here; (with_reducible show wpAny _ _ (PySem.call (Value.ref 372) [Value.ref _, Value.none, Value.int 1922868 _, Value.int 1 _, Value.ref 283]) _ _ _); k_dflt (refine' use0 (c_tripN_arm _ _ _ _ _ _ _ _ _ ?hy ?hm ?hd ?hn) ?k1 ?k2 ?k3 ?k4 ?k5 ?kXB ?kTB ?kK ?kd ?ku ?_; (case k1 => k_asm); (case k2 => k_asm); (case k3 => k_asm); (case k4 => k_asm); (case k5 => k_asm); (case kXB => k_asm); (case kTB => k_asm); (case kK => first | exact rfl | assumption); (case kd => first | ((with_reducible refine' room_dp ?rdh ?rdk); (case rdh => with_reducible assumption); (case rdk => decide)) | ktr_room); (case ku => first | ((with_reducible refine' room_un ?ruh ?ruk); (case ruh => with_reducible assumption); (case ruk => decide)) | ktr_units); rotate_right; refine' ⟨?mT, ?_⟩; (case mT => first | k_mem | ((repeat (refine' List.Mem.tail _ ?_)); assumption)); intro t9 h9 tk9 F9 N9; (case hy => (law_clear; first | omega | ((try simp only [decide_eq_true_eq, decide_eq_false_iff_not, gj, ij, cj, jj, aj, sj, leapS] at *); first | done | omega))); (case hm => (law_clear; first | omega | ((try simp only [decide_eq_true_eq, decide_eq_false_iff_not, gj, ij, cj, jj, aj, sj, leapS] at *); first | done | omega))); (case hd => (law_clear; first | omega | ((try simp only [decide_eq_true_eq, decide_eq_false_iff_not, gj, ij, cj, jj, aj, sj, leapS] at *); first | done | omega))); (case hn => (law_clear; first | omega | ((try simp only [decide_eq_true_eq, decide_eq_false_iff_not, gj, ij, cj, jj, aj, sj, leapS] at *); first | done | omega))); (try dsimp only); (try k_fold))))
local macro_rules | `(tactic| walk_at "call ref") => `(tactic| (k_here; (with_reducible show wpAny _ _ (PySem.call (Value.ref 372) [Value.ref _, Value.str (Str.ofString "sarkawag") _, Value.int 2117212 _, Value.int 533 _, Value.ref 282]) _ _ _); k_dflt (refine' use (c_tripV_sar _ _ _ _ _ _ _ _ _ _ ?hy ?hm ?hd) ?k1 ?k2 ?k3 ?k4 ?k5 ?kK ?kd ?ku ?_; (case k1 => k_asm); (case k2 => k_asm); (case k3 => k_asm); (case k4 => k_asm); (case k5 => k_asm); (case kK => first | exact rfl | assumption); (case kd => first | ((with_reducible refine' room_dp ?rdh ?rdk); (case rdh => with_reducible assumption); (case rdk => decide)) | ktr_room); (case ku => first | ((with_reducible refine' room_un ?ruh ?ruk); (case ruh => with_reducible assumption); (case ruk => decide)) | ktr_units); rotate_right; refine' ⟨?mT, ?_⟩; (case mT => first | k_mem | ((repeat (refine' List.Mem.tail _ ?_)); assumption)); intro t9 h9 tk9 F9 N9; (case hy => (law_clear; first | omega | ((try simp only [decide_eq_true_eq, decide_eq_false_iff_not, gj, ij, cj, jj, aj, sj, leapS] at *); first | done | omega))); (case hm => (law_clear; first | omega | ((try simp only [decide_eq_true_eq, decide_eq_false_iff_not, gj, ij, cj, jj, aj, sj, leapS] at *); first | done | omega))); (case hd => (law_clear; first | omega | ((try simp only [decide_eq_true_eq, decide_eq_false_iff_not, gj, ij, cj, jj, aj, sj, leapS] at *); first | done | omega))); (try dsimp only); (try k_fold))))
local macro_rules | `(tactic| walk_at "call ref") => `(tactic| (k_here; (with_reducible show wpAny _ _ (PySem.call (Value.ref 372) [Value.ref _, Value.str (Str.ofString "sarkawag") _, Value.int 2117212 _, Value.int 533 _, Value.ref 282]) _ _ _); k_dflt (refine' use0 (c_tripN_sar _ _ _ _ _ _ _ _ _ _ ?hy ?hm ?hd ?hn) ?k1 ?k2 ?k3 ?k4 ?k5 ?kXB ?kTB ?kK ?kd ?ku ?_; (case k1 => k_asm); (case k2 => k_asm); (case k3 => k_asm); (case k4 => k_asm); (case k5 => k_asm); (case kXB => k_asm); (case kTB => k_asm); (case kK => first | exact rfl | assumption); (case kd => first | ((with_reducible refine' room_dp ?rdh ?rdk); (case rdh => with_reducible assumption); (case rdk => decide)) | ktr_room); (case ku => first | ((with_reducible refine' room_un ?ruh ?ruk); (case ruh => with_reducible assumption); (case ruk => decide)) | ktr_units); rotate_right; refine' ⟨?mT, ?_⟩; (case mT => first | k_mem | ((repeat (refine' List.Mem.tail _ ?_)); assumption)); intro t9 h9 tk9 F9 N9; (case hy => (law_clear; first | omega | ((try simp only [decide_eq_true_eq, decide_eq_false_iff_not, gj, ij, cj, jj, aj, sj, leapS] at *); first | done | omega))); (case hm => (law_clear; first | omega | ((try simp only [decide_eq_true_eq, decide_eq_false_iff_not, gj, ij, cj, jj, aj, sj, leapS] at *); first | done | omega))); (case hd => (law_clear; first | omega | ((try simp only [decide_eq_true_eq, decide_eq_false_iff_not, gj, ij, cj, jj, aj, sj, leapS] at *); first | done | omega))); (case hn => (law_clear; first | omega | ((try simp only [decide_eq_true_eq, decide_eq_false_iff_not, gj, ij, cj, jj, aj, sj, leapS] at *); first | done | omega))); (try dsimp only); (try k_fold))))
local macro_rules | `(tactic| walk_at "call ref") => `(tactic| (k_here; (with_reducible show wpAny _ _ (PySem.call (Value.ref 365) [Value.int _ _, Value.none, Value.int 1922502 _, Value.int 1922868 _, Value.int 1 _, Value.ref 283, Value.ref _, Value.ref _]) _ _ _); k_dflt (refine' use0 (c_arm_arm _ _ _ _ _ _ _ _ _ _ _ _ _ ?hd) ?k1 ?k2 ?k3 ?k4 ?k5 ?kXB ?kTB ?kK ?kd ?ku ?_; (case k1 => k_asm); (case k2 => k_asm); (case k3 => k_asm); (case k4 => k_asm); (case k5 => k_asm); (case kXB => k_asm); (case kTB => k_asm); (case kK => first | exact rfl | assumption); (case kd => first | ((with_reducible refine' room_dp ?rdh ?rdk); (case rdh => with_reducible assumption); (case rdk => decide)) | ktr_room); (case ku => first | ((with_reducible refine' room_un ?ruh ?ruk); (case ruh => with_reducible assumption); (case ruk => decide)) | ktr_units); (case hd => (law_clear; first | omega | ((try simp only [decide_eq_true_eq, decide_eq_false_iff_not, gj, ij, cj, jj, aj, sj, leapS] at *); first | done | omega))); rotate_right; refine' ⟨?mT, ?_⟩; (case mT => first | k_mem | ((repeat (refine' List.Mem.tail _ ?_)); assumption)); refine' ⟨?mU, ?_⟩; (case mU => first | k_mem | ((repeat (refine' List.Mem.tail _ ?_)); assumption)); intro t9 h9 tk9 F9 N9; (try dsimp only); (try k_fold))))
local macro_rules | `(tactic| walk_at "call ref") => `(tactic| (k_here; (with_reducible show wpAny _ _ (PySem.call (Value.ref 372) [Value.ref _, Value.none, Value.int 1922868 _, Value.int 1 _, Value.ref 283]) _ _ _); k_dflt (refine' use0 (c_trip_arm _ _ _ _ _ _ _ _ _ ?hy ?hm ?hd) ?k1 ?k2 ?k3 ?k4 ?k5 ?kXB ?kTB ?kK ?kd ?ku ?_; (case k1 => k_asm); (case k2 => k_asm); (case k3 => k_asm); (case k4 => k_asm); (case k5 => k_asm); (case kXB => k_asm); (case kTB => k_asm); (case kK => first | exact rfl | assumption); (case kd => first | ((with_reducible refine' room_dp ?rdh ?rdk); (case rdh => with_reducible assumption); (case rdk => decide)) | ktr_room); (case ku => first | ((with_reducible refine' room_un ?ruh ?ruk); (case ruh => with_reducible assumption); (case ruk => decide)) | ktr_units); rotate_right; refine' ⟨?mT, ?_⟩; (case mT => first | k_mem | ((repeat (refine' List.Mem.tail _ ?_)); assumption)); intro t9 h9 tk9 F9 N9; (case hy => (law_clear; first | omega | ((try simp only [decide_eq_true_eq, decide_eq_false_iff_not, gj, ij, cj, jj, aj, sj, leapS] at *); first | done | omega))); (case hm => (law_clear; first | omega | ((try simp only [decide_eq_true_eq, decide_eq_false_iff_not, gj, ij, cj, jj, aj, sj, leapS] at *); first | done | omega))); (case hd => (law_clear; first | omega | ((try simp only [decide_eq_true_eq, decide_eq_false_iff_not, gj, ij, cj, jj, aj, sj, leapS] at *); first | done | omega))); (try dsimp only); (try k_fold))))
local macro_rules | `(tactic| walk_at "call ref") => `(tactic| (k_here; (with_reducible show wpAny _ _ (PySem.call (Value.ref 365) [Value.int _ _, Value.str (Str.ofString "sarkawag") _, Value.int 2117211 _, Value.int 2117212 _, Value.int 533 _, Value.ref 282, Value.ref _, Value.ref _]) _ _ _); k_dflt (refine' use0 (c_arm_sar _ _ _ _ _ _ _ _ _ _ _ _ _ _ ?hd) ?k1 ?k2 ?k3 ?k4 ?k5 ?kXB ?kTB ?kK ?kd ?ku ?_; (case k1 => k_asm); (case k2 => k_asm); (case k3 => k_asm); (case k4 => k_asm); (case k5 => k_asm); (case kXB => k_asm); (case kTB => k_asm); (case kK => first | exact rfl | assumption); (case kd => first | ((with_reducible refine' room_dp ?rdh ?rdk); (case rdh => with_reducible assumption); (case rdk => decide)) | ktr_room); (case ku => first | ((with_reducible refine' room_un ?ruh ?ruk); (case ruh => with_reducible assumption); (case ruk => decide)) | ktr_units); (case hd => (law_clear; first | omega | ((try simp only [decide_eq_true_eq, decide_eq_false_iff_not, gj, ij, cj, jj, aj, sj, leapS] at *); first | done | omega))); rotate_right; refine' ⟨?mT, ?_⟩; (case mT => first | k_mem | ((repeat (refine' List.Mem.tail _ ?_)); assumption)); refine' ⟨?mU, ?_⟩; (case mU => first | k_mem | ((repeat (refine' List.Mem.tail _ ?_)); assumption)); intro t9 h9 tk9 F9 N9; (try dsimp only); (try k_fold))))
local macro_rules | `(tactic| walk_at "call ref") => `(tactic| (k_here; (with_reducible show wpAny _ _ (PySem.call (Value.ref 372) [Value.ref _, Value.str (Str.ofString "sarkawag") _, Value.int 2117212 _, Value.int 533 _, Value.ref 282]) _ _ _); k_dflt (refine' use0 (c_trip_sar _ _ _ _ _ _ _ _ _ _ ?hy ?hm ?hd) ?k1 ?k2 ?k3 ?k4 ?k5 ?kXB ?kTB ?kK ?kd ?ku ?_; (case k1 => k_asm); (case k2 => k_asm); (case k3 => k_asm); (case k4 => k_asm); (case k5 => k_asm); (case kXB => k_asm); (case kTB => k_asm); (case kK => first | exact rfl | assumption); (case kd => first | ((with_reducible refine' room_dp ?rdh ?rdk); (case rdh => with_reducible assumption); (case rdk => decide)) | ktr_room); (case ku => first | ((with_reducible refine' room_un ?ruh ?ruk); (case ruh => with_reducible assumption); (case ruk => decide)) | ktr_units); rotate_right; refine' ⟨?mT, ?_⟩; (case mT => first | k_mem | ((repeat (refine' List.Mem.tail _ ?_)); assumption)); intro t9 h9 tk9 F9 N9; (case hy => (law_clear; first | omega | ((try simp only [decide_eq_true_eq, decide_eq_false_iff_not, gj, ij, cj, jj, aj, sj, leapS] at *); first | done | omega))); (case hm => (law_clear; first | omega | ((try simp only [decide_eq_true_eq, decide_eq_false_iff_not, gj, ij, cj, jj, aj, sj, leapS] at *); first | done | omega))); (case hd => (law_clear; first | omega | ((try simp only [decide_eq_true_eq, decide_eq_false_iff_not, gj, ij, cj, jj, aj, sj, leapS] at *); first | done | omega))); (try dsimp only); (try k_fold))))
local macro_rules | `(tactic| walk_at "eval Name") => `(tactic| (k_here; k_dflt (first | (name_kind "local"; refine' nameX_L ?F ?v ?_ ?a ?b ?c; (case F => k_asm); (case a => kernel_rfl); (case b => kernel_rfl); (case c => kernel_rfl); (case v => first | (refine' look_of ?gg ?ge; (case gg => (repeat (first | (with_reducible exact guess_hit_l) | (with_reducible apply guess_miss_l) | (with_reducible exact guess_hit_if) | ((with_reducible show Guess (@ite _ _ _ _ _) _); (with_reducible apply guess_miss_if))))); (case ge => kernel_rfl)) | exact rfl)) | (name_kind "globalImplicit"; refine' nameX_K ?F ?X ?T ?e ?_ ?a ?b ?c; (case F => k_asm); (case X => k_asm); (case T => k_asm); (case e => with_reducible (first | exact gn_law_roman _ | exact gn_law_date _ | exact gn_law_fourth _ | exact gn_law_near _ | exact gn_law_plain _ | exact gn_law_openings _ | exact gn_from_gregorian_julian _ | exact gn_to_gregorian_julian _ | exact gn_law_islamic _ | exact gn_law_coptic _ | exact gn_law_armenian _ | exact gn_law_triple _ | exact gn_law_strides _)); (case a => kernel_rfl); (case b => kernel_rfl); (case c => kernel_rfl)) | (name_kind "globalImplicit"; refine' nameX_B ?F ?X ?T ?e ?v ?n ?_ ?a ?b ?c; (case F => k_asm); (case X => k_asm); (case T => k_asm); (case e => with_reducible (first | exact gb_range _ | exact gb_len _ | exact gb_divmod _)); (case v => with_reducible (first | exact bb_range | exact bb_len | exact bb_divmod)); (case a => kernel_rfl); (case b => kernel_rfl); (case n => decide); (case c => kernel_rfl)))))
local macro_rules | `(tactic| walk_at "exec For Name Call cons nil") => `(tactic| (k_here; (rename Fr _ _ _ _ => lF'); (with_unfolding_all refine' For_turns lF' ?_; k_whole)))
local macro_rules | `(tactic| walk_at "pyIter ref") => `(tactic| (k_here; (with_reducible show wpAny _ _ (pyIter (Value.ref _)) (fun it s₂ => TurnsAt _ _ _ _ _ _ _ _ _ it s₂) _ _); k_dflt (refine' range_turns [Str.ofString "place", Str.ofString "count", Str.ofString "pick", Str.ofString "more", Str.ofString "stride", Str.ofString "far", Str.ofString "month", Str.ofString "day", Str.ofString "roman", Str.ofString "latin", Str.ofString "sizes", Str.ofString "method", Str.ofString "edge", Str.ofString "first", Str.ofString "start", Str.ofString "cycle"] ?rth ?rtr ?rtb ?rtc ?rtF ?rtN ?_ ?_; (case rth => with_unfolding_all rfl); (case rtr => assumption); (case rtb => (law_clear; first | omega | (simp only [gj, ij, cj, jj, aj, sj, leapS] at *; omega))); (case rtc => (law_clear; first | omega | (simp only [gj, ij, cj, jj, aj, sj, leapS] at *; omega))); (case rtF => k_asm); (case rtN => k_asm)); (focus (intro p9 t9 I9 o9 u9 h9 tk9 hp9 F9 N9; (try dsimp only))); rotate_left; (focus (intro u9 h9 tk9 F9 N9; (try dsimp only))); rotate_right))
local macro_rules | `(tactic| walk_at "TurnAny") => `(tactic| (k_here; k_dflt (refine' TurnAny.intro ?taF ?taN ?tah ?tas; (case taF => k_asm); (case taN => k_asm); (case tah => (first | (intro p9 hp9; (repeat (with_reducible refine List.mem_cons_of_mem _ ?_)); exact hp9) | kcj_all)); (case tas => ((try dsimp only); (repeat (refine same_set (by decide) ?_)); exact same_any)))))
local macro_rules | `(tactic| walk_at "eval IfExp") => `(tactic| (k_here; refine' join_nums ?jnj ?jnF ?jnN ?_ ?_; (case jnj => assumption); (case jnF => k_asm); (case jnN => k_asm); (focus (rename JoinNums => jn9; clear jn9)); rotate_left; (intro a9 vs9 n9 ns9 h9 tk9 i9 l9 F9 N9; (try dsimp only); (try k_fold)); rotate_right))
local macro_rules | `(tactic| walk_at "JoinL") => `(tactic| (k_here; k_dflt (refine' JoinL.intro ?jli ?jll ?jlF ?jlN ?jlm ?jls; (case jlF => k_asm); (case jlN => k_asm); (case jlm => k_mem); (case jls => (first | (intro p9 hp9; (repeat (with_reducible refine List.mem_cons_of_mem _ ?_)); exact hp9) | kcj_all)); (case jli => first | assumption | (repeat constructor) | l_ints); (case jll => first | omega | decide | (simp only [List.length_take]; omega)))))
local macro_rules | `(tactic| walk_at "subscriptTail Name Name ref int") => `(tactic| (k_here; (with_reducible show wpAny _ _ (subscriptTail _ _ (Value.ref _) (Value.int _ _)) _ _ _); k_dflt (first | ((with_reducible show wpAny _ _ (subscriptTail _ _ (Value.ref 278) _) _ _ _); refine' w_item_bd 0 2451545 ?F ?X ?l ?i ?bd ?b0 ?N ?N2 ?b1 ?_; (case F => k_asm); (case X => k_asm); (case l => k_is); (case i => repeat constructor); (case N => first | exact Eq.refl (6 : Int) | exact Eq.refl (7 : Int)); (case N2 => decide); (case bd => decide); (case b0 => (law_clear; first | omega | (simp only [gj, ij, cj, jj, aj, sj, leapS] at *; omega))); (case b1 => (law_clear; first | omega | (simp only [gj, ij, cj, jj, aj, sj, leapS] at *; omega)))) | ((with_reducible show wpAny _ _ (subscriptTail _ _ (Value.ref 279) _) _ _ _); refine' w_item_bd 1 146097 ?F ?X ?l ?i ?bd ?b0 ?N ?N2 ?b1 ?_; (case F => k_asm); (case X => k_asm); (case l => k_is); (case i => repeat constructor); (case N => first | exact Eq.refl (6 : Int) | exact Eq.refl (7 : Int)); (case N2 => decide); (case bd => decide); (case b0 => (law_clear; first | omega | (simp only [gj, ij, cj, jj, aj, sj, leapS] at *; omega))); (case b1 => (law_clear; first | omega | (simp only [gj, ij, cj, jj, aj, sj, leapS] at *; omega))))); intro r9 t9 lo9 hi9; (try dsimp only)))
local macro_rules | `(tactic| walk_at "binaryOp Mult int int") => `(tactic| (k_here; (refine' w_mul_bd ?m1 ?m2 ?m3 ?m4 ?_; (case m1 => (law_clear; first | omega | (simp only [gj, ij, cj, jj, aj, sj, leapS] at *; omega))); (case m2 => (law_clear; first | omega | (simp only [gj, ij, cj, jj, aj, sj, leapS] at *; omega))); (case m3 => (law_clear; first | omega | (simp only [gj, ij, cj, jj, aj, sj, leapS] at *; omega))); (case m4 => (law_clear; first | omega | (simp only [gj, ij, cj, jj, aj, sj, leapS] at *; omega)))); intro r9 t9 tk9 lo9 hi9; (try dsimp only)))
local macro_rules | `(tactic| walk_at "binaryOp Mod int int") => `(tactic| (k_here; (refine' w_mod_ii ?m1 ?_; (case m1 => (law_clear; first | omega | (simp only [gj, ij, cj, jj, aj, sj, leapS] at *; omega)))); (try dsimp only)))
set_option maxRecDepth 100000 in
set_option maxHeartbeats 40000000 in
theorem law_holds : PySem.Challenge.rw_ad5034_01.Holds := by
  refine gate_out ?_
  simp (disch := (k_dflt (exact hd (by
  k_go0
  all_goals (try k_fold)
  all_goals (have hJ9 : JoinNums := ⟨⟩)
  all_goals k_steps
  all_goals k_end)))) only [↓gate_true]
end
end Mine
set_option maxRecDepth 100000 in
theorem PySem.Challenge.cw_ad5034_01_holds : PySem.Challenge.rw_ad5034_01.Holds := by
  exact Mine.law_holds
