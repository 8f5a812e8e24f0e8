import PyProof.Rows.All
import Wide.All
import OpenK.AllK
import Wide.FinOn
import PySem.Challenge.RW_ad5036_01
set_option Elab.async false
section
open PySem PySem.W PyProof.Rows
namespace Mine
set_option maxRecDepth 100000 in
set_option maxHeartbeats 0 in
open_top hd for PySem.Challenge.rw_ad5036_01
end Mine
end
section
open PySem PySem.Float64 PySem.Flt
namespace Mine

/-- quarter units -/
def H (k : Int) : UInt64 := Float64.ofFrac (decide (k < 0)) k.natAbs 4
/-- one unit is 2 ^ 1072 of Float64.val's -/
def P : Nat := 2 ^ 1072
theorem P_pos : 0 < P := Nat.two_pow_pos _
theorem M_eq : 2 ^ 1074 = 4 * P := by unfold P; rw [show (1074 : Nat) = 2 + 1072 from rfl, Nat.pow_add]
theorem V_inj {a b : Nat} (h : V a = V b) : a = b := by
  rcases Nat.lt_trichotomy a b with x | x | x
  · have := V_lt x; omega
  · exact x
  · have := V_lt x; omega

theorem rep_nat (n c : Nat) (hn : n ≤ 2 ^ 53) (hc : 52 ≤ c) (hc2 : c ≤ 1990) : ∃ t, t < infMag ∧ V t = n * 2 ^ c := by
  by_cases h0 : n = 0
  · exact ⟨0, by decide, by rw [h0, V_zero]; omega⟩
  · have hl1 : 2 ^ n.log2 ≤ n := Nat.log2_self_le h0
    have hl2 : n < 2 ^ (n.log2 + 1) := Nat.lt_log2_self
    have hq1 : 2 ^ 52 ≤ n * 2 ^ (52 - n.log2) := by
      by_cases h : n.log2 ≤ 52
      · calc 2 ^ 52 = 2 ^ n.log2 * 2 ^ (52 - n.log2) := by rw [← Nat.pow_add]; congr 1; omega
          _ ≤ n * 2 ^ (52 - n.log2) := Nat.mul_le_mul_right _ hl1
      · have : 2 ^ 53 ≤ 2 ^ n.log2 := Nat.pow_le_pow_right (by decide) (by omega)
        have : 0 < 2 ^ (52 - n.log2) := Nat.two_pow_pos _
        have : n * 1 ≤ n * 2 ^ (52 - n.log2) := Nat.mul_le_mul_left _ this
        omega
    have hq2 : n * 2 ^ (52 - n.log2) ≤ 2 ^ 53 := by
      by_cases h : n.log2 ≤ 52
      · calc n * 2 ^ (52 - n.log2) ≤ 2 ^ (n.log2 + 1) * 2 ^ (52 - n.log2) := Nat.mul_le_mul_right _ (Nat.le_of_lt hl2)
          _ = 2 ^ 53 := by rw [← Nat.pow_add]; congr 1; omega
      · have : 52 - n.log2 = 0 := by omega
        rw [this]; omega
    refine ⟨(c - (52 - n.log2)) * 2 ^ 52 + n * 2 ^ (52 - n.log2), ?_, ?_⟩
    · have : infMag = 2047 * 2 ^ 52 := rfl
      have : (c - (52 - n.log2)) * 2 ^ 52 ≤ 1990 * 2 ^ 52 := Nat.mul_le_mul_right _ (by omega)
      omega
    · rw [V_at hq2 (.inl hq1), Nat.mul_assoc, ← Nat.pow_add]
      congr 2
      omega

theorem not_over' {D v K : Nat} (hD : 0 < D) (h2 : 2 * v < K) : ¬ D * K ≤ 2 * (D * v) := by
  intro h
  have h3 : D * (2 * v) < D * K := Nat.mul_lt_mul_of_pos_left h2 hD
  have h4 : D * (2 * v) = 2 * (D * v) := by rw [Nat.mul_left_comm]
  omega
theorem not_over {D v : Nat} (hD : 0 < D) (hv : v ≤ 2 ^ 1990) : ¬ D * ((2 ^ 54 - 1) * 2 ^ 2045) ≤ 2 * (D * v) :=
  not_over' hD (Nat.lt_of_le_of_lt (Nat.mul_le_mul_left 2 hv) (by
    rw [← Nat.pow_succ']
    exact Nat.lt_of_lt_of_le (Nat.pow_lt_pow_right (by decide) (by decide)) (Nat.le_mul_of_pos_left _ (by decide))))

theorem right_at {r : UInt64} {neg : Bool} {W D t₀ : Nat} (hr : Right r neg W D) (hD : 0 < D) (ht : t₀ < infMag) (hb : V t₀ ≤ 2 ^ 1990) (hW : W = D * V t₀) : r = pack neg t₀ := by
  obtain ⟨t, hp, hle, hov, hn⟩ := hr
  have hlt : t < infMag := by
    rcases Nat.lt_or_eq_of_le hle with h | h
    · exact h
    · have h9 := hov.mp h
      rw [hW] at h9
      exact absurd h9 (not_over hD hb)
  have h := (hn hlt t₀).1
  rw [hW] at h
  have h0 : dist (D * V t₀) (D * V t) = 0 := by
    have : dist (D * V t₀) (D * V t₀) = 0 := by unfold dist; omega
    omega
  have h1 : D * V t₀ = D * V t := by unfold dist at h0; omega
  have h2 : V t₀ = V t := Nat.eq_of_mul_eq_mul_left hD h1
  rw [hp, V_inj h2]

theorem P_le {n : Nat} (hn : n ≤ 2 ^ 53) : n * P ≤ 2 ^ 1990 := by
  refine Nat.le_trans (Nat.mul_le_mul_right _ hn) ?_
  unfold P
  rw [← Nat.pow_add]
  exact Nat.pow_le_pow_right (by decide) (by decide)
theorem ac4 (n p : Nat) : n * (4 * p) = 4 * (n * p) := Nat.mul_left_comm _ _ _
theorem T_spec (n : Nat) (hn : n ≤ 2 ^ 53) : roundMag n 4 < infMag ∧ V (roundMag n 4) = n * P := by
  obtain ⟨t, ht, hV⟩ := rep_nat n 1072 hn (by omega) (by omega)
  have hr : Right (ofFrac false n 4) false (n * 2 ^ 1074) 4 := ofFrac_right (by decide) rfl (by decide)
  have hV : V t = n * P := hV
  have hb : V t ≤ 2 ^ 1990 := by rw [hV]; exact P_le hn
  have h := right_at hr (by decide) ht hb (by rw [hV, M_eq, ac4])
  have hm : roundMag n 4 = t := by
    have h' : pack false (roundMag n 4) = pack false t := by rw [← h]; unfold ofFrac; rfl
    have hle : roundMag n 4 ≤ infMag := by rw [roundMag_min]; omega
    have hi : infMag = 2047 * 2 ^ 52 := rfl
    have e := congrArg UInt64.toNat h'
    rw [pack_toNat _ (by omega), pack_toNat _ (by omega)] at e
    simpa using e
  rw [hm]
  exact ⟨ht, hV⟩

theorem H_eq (k : Int) : H k = pack (decide (k < 0)) (roundMag k.natAbs 4) := by unfold H ofFrac; rfl
theorem sgn_dec (k : Int) (n : Nat) : sgn (decide (k < 0)) (k.natAbs * n) = k * (n : Int) := by
  unfold sgn
  by_cases h : k < 0
  · simp only [h, decide_true, if_true]
    rw [Int.natCast_mul, ← Int.neg_mul]; congr 1; omega
  · simp only [h, decide_false, Bool.false_eq_true, if_false]
    rw [Int.natCast_mul]; congr 1; omega
theorem H_spec {k : Int} (hk : k.natAbs ≤ 2 ^ 53) : ∃ m e, decode (H k) = .fin (decide (k < 0)) m e ∧ val (H k) = k * (P : Int) := by
  obtain ⟨ht, hV⟩ := T_spec _ hk
  obtain ⟨m, e, hd, hm⟩ := decode_pack (decide (k < 0)) ht
  refine ⟨m, e, by rw [H_eq]; exact hd, ?_⟩
  rw [H_eq, val_pack _ ht, hV, sgn_dec]

theorem right_exact {r : UInt64} {neg : Bool} {W D : Nat} (hr : Right r neg W D) (hD : 0 < D) {z : Int} (hz : z.natAbs ≤ 2 ^ 53) (hW : W = D * (z.natAbs * P)) (hn : neg = decide (z < 0)) : r = H z := by
  obtain ⟨ht, hV⟩ := T_spec _ hz
  have hb : V (roundMag z.natAbs 4) ≤ 2 ^ 1990 := by rw [hV]; exact P_le hz
  rw [right_at hr hD ht hb (by rw [hV, hW]), H_eq, hn]

theorem H_zero : H 0 = zero false := by decide +kernel
theorem ofInt_H {n : Int} (h : n.natAbs ≤ 2 ^ 51) : ofInt n = H (4 * n) := by
  refine right_exact (ofInt_right n) (by decide) (by omega) ?_ ?_
  · rw [M_eq, show (4 * n).natAbs = 4 * n.natAbs by omega, Nat.one_mul, Nat.mul_left_comm, Nat.mul_assoc]
  · exact decide_eq_decide.mpr (by omega)
theorem mulP_lt {a : Int} : a * (P : Int) < 0 ↔ a < 0 := by
  have := P_pos
  constructor
  · intro h
    by_cases h2 : a < 0
    · exact h2
    · have := Int.mul_nonneg (show 0 ≤ a by omega) (show (0 : Int) ≤ (P : Int) by omega)
      omega
  · intro h; exact Int.mul_neg_of_neg_of_pos h (by omega)
theorem mulP_zero {a : Int} : a * (P : Int) = 0 ↔ a = 0 := by
  have := P_pos
  constructor
  · intro h; rcases Int.mul_eq_zero.mp h with h | h
    · exact h
    · omega
  · intro h; rw [h, Int.zero_mul]
theorem natAbs_mulP {a : Int} : (a * (P : Int)).natAbs = a.natAbs * P := by rw [Int.natAbs_mul, Int.natAbs_natCast]
theorem add_H {a b : Int} (ha : a.natAbs ≤ 2 ^ 53) (hb : b.natAbs ≤ 2 ^ 53) (hc : (a + b).natAbs ≤ 2 ^ 53) : add (H a) (H b) = H (a + b) := by
  obtain ⟨m, e, hd, hv⟩ := H_spec ha
  obtain ⟨n, f, hg, hw⟩ := H_spec hb
  have h := add_right hd hg
  rw [hv, hw, ← Int.add_mul] at h
  by_cases z : a + b = 0
  · rw [h.1 (by rw [z, Int.zero_mul]), z, H_zero]
    congr 1
    by_cases q : a < 0
    · have : ¬ b < 0 := by omega
      simp [this]
    · simp [q]
  · exact right_exact (h.2 (by rw [Ne, mulP_zero]; exact z)) (by decide) hc (by rw [natAbs_mulP, Nat.one_mul]) (decide_eq_decide.mpr mulP_lt)
theorem sub_H {a b : Int} (ha : a.natAbs ≤ 2 ^ 53) (hb : b.natAbs ≤ 2 ^ 53) (hc : (a - b).natAbs ≤ 2 ^ 53) : sub (H a) (H b) = H (a - b) := by
  obtain ⟨m, e, hd, hv⟩ := H_spec ha
  obtain ⟨n, f, hg, hw⟩ := H_spec hb
  have h := sub_right hd hg
  rw [hv, hw, ← Int.sub_mul] at h
  by_cases z : a - b = 0
  · rw [h.1 (by rw [z, Int.zero_mul]), z, H_zero]
    congr 1
    by_cases q : a < 0
    · have : b < 0 := by omega
      simp [this]
    · simp [q]
  · exact right_exact (h.2 (by rw [Ne, mulP_zero]; exact z)) (by decide) hc (by rw [natAbs_mulP, Nat.one_mul]) (decide_eq_decide.mpr mulP_lt)
theorem mul_H {a b c : Int} (ha : a.natAbs ≤ 2 ^ 53) (hb : b.natAbs ≤ 2 ^ 53) (hc : c.natAbs ≤ 2 ^ 53) (hm : a * b = 4 * c) (hp : 0 < a ∨ 0 < b) : mul (H a) (H b) = H c := by
  obtain ⟨m, e, hd, hv⟩ := H_spec ha
  obtain ⟨n, f, hg, hw⟩ := H_spec hb
  have h := mul_right hd hg
  rw [hv, hw, natAbs_mulP, natAbs_mulP] at h
  refine right_exact h (Nat.two_pow_pos _) hc ?_ ?_
  · have e1 : a.natAbs * b.natAbs = 4 * c.natAbs := by rw [← Int.natAbs_mul, hm]; omega
    rw [M_eq]
    generalize P = p
    calc a.natAbs * p * (b.natAbs * p) = (a.natAbs * b.natAbs) * (p * p) := by ac_rfl
      _ = 4 * p * (c.natAbs * p) := by rw [e1]; ac_rfl
  · rcases hp with hp | hp
    · have e1 : ¬ a < 0 := by omega
      have e2 : b < 0 ↔ c < 0 := by
        constructor
        · intro q; have := Int.mul_neg_of_pos_of_neg hp q; omega
        · intro q; by_cases z : b < 0
          · exact z
          · have := Int.mul_nonneg (Int.le_of_lt hp) (show 0 ≤ b by omega); omega
      simp only [e1, decide_false, e2]
      cases decide (c < 0) <;> rfl
    · have e1 : ¬ b < 0 := by omega
      have e2 : a < 0 ↔ c < 0 := by
        constructor
        · intro q; have := Int.mul_neg_of_neg_of_pos q hp; omega
        · intro q; by_cases z : a < 0
          · exact z
          · have := Int.mul_nonneg (show 0 ≤ a by omega) (Int.le_of_lt hp); omega
      simp only [e1, decide_false, e2]
      cases decide (c < 0) <;> rfl

theorem fin_H {k : Int} (hk : k.natAbs ≤ 2 ^ 53) : isFinite (H k) = true := by
  obtain ⟨m, e, hd, _⟩ := H_spec hk
  unfold isFinite; rw [hd]
theorem nan_of_fin {x : UInt64} {a : Bool} {m : Nat} {e : Int} (h : decode x = .fin a m e) : isNaN x = false := by unfold isNaN; rw [h]
theorem abs_H {k : Int} (hk : k.natAbs ≤ 2 ^ 53) : Float64.abs (H k) = H k.natAbs := by
  obtain ⟨m, e, hd, _⟩ := H_spec hk
  obtain ⟨ht, _⟩ := T_spec _ hk
  have hi : infMag = 2047 * 2 ^ 52 := rfl
  unfold Float64.abs
  rw [nan_of_fin hd, if_neg (by decide), H_eq, H_eq, pack_toNat _ (by omega), Int.natAbs_natCast]
  have e1 : ¬ ((k.natAbs : Int) < 0) := by omega
  simp only [e1, decide_false]
  congr 1
  cases decide (k < 0) <;> simp <;> omega
theorem compare_scale {p q K : Int} (hK : 0 < K) : compare (p * K) (q * K) = compare p q := by
  rcases Int.lt_trichotomy p q with h | h | h
  · rw [Int.compare_eq_lt.mpr h, Int.compare_eq_lt.mpr (Int.mul_lt_mul_of_pos_right h hK)]
  · subst h; simp
  · rw [Int.compare_eq_gt.mpr h, Int.compare_eq_gt.mpr (Int.mul_lt_mul_of_pos_right h hK)]
theorem MI_eq : (2 : Int) ^ 1074 = 4 * (P : Int) := by
  have h : (((2 ^ 1074 : Nat)) : Int) = ((4 * P : Nat) : Int) := by rw [M_eq]
  rw [Int.natCast_mul] at h
  rw [← show ((4 : Nat) : Int) = (4 : Int) from rfl, ← h, Int.natCast_pow]
  rfl
theorem cmpInt_H {k n : Int} (hk : k.natAbs ≤ 2 ^ 53) : cmpInt (H k) n = some (compare k (4 * n)) := by
  obtain ⟨m, e, hd, hv⟩ := H_spec hk
  rw [cmpInt_right hd, hv, MI_eq, show n * (4 * (P : Int)) = 4 * n * P by rw [← Int.mul_assoc, Int.mul_comm n 4], compare_scale (by have := P_pos; omega)]

/-! floor, ceil, trunc by the value -/
theorem floorOf_val {x : UInt64} {a : Bool} {m : Nat} {e : Int} (hx : decode x = .fin a m e) : floorOf a m e = val x / (4 * (P : Int)) := by
  have he := decode_ge hx
  rw [val_eq hx, ← MI_eq]
  have hpow : ∀ n : Nat, ((2 ^ n : Nat) : Int) = (2 : Int) ^ n := fun n => by simp
  have hpos : ∀ n : Nat, (0 : Int) < (2 : Int) ^ n := fun n => by rw [← hpow]; exact Int.ofNat_lt.mpr (Nat.two_pow_pos _)
  rw [sgn_mul, hpow]
  unfold floorOf
  split
  · rename_i h
    have e1 : (e + 1074).toNat = e.toNat + 1074 := by omega
    rw [e1, Int.pow_add, ← Int.mul_assoc, Int.mul_ediv_cancel _ (Int.ne_of_gt (hpos 1074))]
  · rename_i h
    have e1 : 1074 = (e + 1074).toNat + (-e).toNat := by omega
    rw [Int.fdiv_eq_ediv_of_nonneg _ (Int.le_of_lt (by exact_mod_cast hpos _))]
    conv => rhs; rw [e1, Int.pow_add]
    rw [Int.mul_comm (sgn a m), Int.mul_ediv_mul_of_pos _ _ (hpos _)]
theorem neg_fin {x : UInt64} {a : Bool} {m : Nat} {e : Int} (hx : decode x = .fin a m e) : decode (neg x) = .fin (!a) m e := neg_decode hx
theorem ceilOf_val {x : UInt64} {a : Bool} {m : Nat} {e : Int} (hx : decode x = .fin a m e) : ceilOf a m e = -((-val x) / (4 * (P : Int))) := by
  unfold ceilOf
  rw [floorOf_val (neg_decode hx), neg_val hx]
theorem mulP_ediv {k : Int} : k * (P : Int) / (4 * (P : Int)) = k / 4 := by
  rw [Int.mul_ediv_mul_of_pos_left _ _ (by have := P_pos; omega)]
theorem floor_H {k : Int} (hk : k.natAbs ≤ 2 ^ 53) : toInt floorOf (H k) = k / 4 := by
  obtain ⟨m, e, hd, hv⟩ := H_spec hk
  rw [toInt_fin hd, floorOf_val hd, hv, mulP_ediv]
theorem ceil_H {k : Int} (hk : k.natAbs ≤ 2 ^ 53) : toInt ceilOf (H k) = -((-k) / 4) := by
  obtain ⟨m, e, hd, hv⟩ := H_spec hk
  rw [toInt_fin hd, ceilOf_val hd, hv, ← Int.neg_mul, mulP_ediv]
theorem trunc_H {k : Int} (hk : k.natAbs ≤ 2 ^ 53) : toInt truncOf (H k) = if k < 0 then -((-k) / 4) else k / 4 := by
  obtain ⟨m, e, hd, hv⟩ := H_spec hk
  rw [toInt_fin hd]
  unfold truncOf
  rw [ceilOf_val hd, floorOf_val hd, hv, ← Int.neg_mul, mulP_ediv, mulP_ediv]
  by_cases q : k < 0 <;> simp [q]

/-! a quotient that is not exact -/
def Rep (v : Int) : Prop := ∃ t, t < infMag ∧ V t = v.natAbs
theorem rep_int {n : Int} (c : Nat) (hn : n.natAbs ≤ 2 ^ 53) (hc : 52 ≤ c) (hc2 : c ≤ 1990) : Rep (n * 2 ^ c) := by
  obtain ⟨t, ht, hV⟩ := rep_nat n.natAbs c hn hc hc2
  exact ⟨t, ht, by rw [hV, Int.natAbs_mul, Int.natAbs_pow]; rfl⟩
theorem Rep.neg {v : Int} (h : Rep v) : Rep (-v) := by
  obtain ⟨t, ht, hV⟩ := h
  exact ⟨t, ht, by rw [hV, Int.natAbs_neg]⟩
/-- r is a finite double, none lies nearer to X / D -/
structure Near (r : UInt64) (X : Int) (D : Nat) : Prop where
  fin : isFinite r = true
  near : ∀ v, Rep v → (X - D * val r).natAbs ≤ (X - D * v).natAbs
theorem near_of {r : UInt64} {neg : Bool} {W D : Nat} (hr : Right r neg W D) (hD : 0 < D) (hW : W ≤ D * 2 ^ 1990) : Near r (sgn neg W) D := by
  obtain ⟨t, hp, hle, hov, hn⟩ := hr
  have hlt : t < infMag := by
    rcases Nat.lt_or_eq_of_le hle with h | h
    · exact h
    · refine absurd (Nat.le_trans (hov.mp h) (Nat.mul_le_mul_left 2 hW)) (not_over hD (Nat.le_refl _))
  obtain ⟨m, e, hd, hm⟩ := decode_pack neg hlt
  have hv : val r = sgn neg (V t) := by rw [hp, val_pack neg hlt]
  have hmain : ∀ t', ((W : Int) - D * V t).natAbs ≤ ((W : Int) - D * V t').natAbs := by
    intro t'
    have h := (hn hlt t').1
    have e1 : ∀ b : Nat, ((W : Int) - (D : Int) * (b : Int)).natAbs = dist W (D * b) := by
      intro b
      rw [← Int.natCast_mul]
      unfold dist
      omega
    rw [e1, e1]; exact h
  have hzero : ((W : Int) - D * V t).natAbs ≤ W := by
    have := hmain 0
    rw [V_zero] at this
    simpa using this
  refine ⟨by unfold isFinite; rw [hp, hd], fun v hv' => ?_⟩
  obtain ⟨t', _, hV'⟩ := hv'
  rw [hv]
  have h1 := hmain t'
  have hDv : (D : Int) * (V t' : Int) = D * (v.natAbs : Int) := by rw [hV']
  rw [hDv] at h1
  have hnn : 0 ≤ (D : Int) * (v.natAbs : Int) := Int.mul_nonneg (by omega) (by omega)
  rcases (show v = v.natAbs ∨ v = -(v.natAbs : Int) by omega) with hs | hs
  · cases neg
    · simp only [sgn, Bool.false_eq_true, if_false]
      rw [hs]; exact h1
    · simp only [sgn, if_true]
      rw [hs, Int.mul_neg]
      generalize (D : Int) * (v.natAbs : Int) = q at *
      generalize (D : Int) * (V t : Int) = p at *
      omega
  · cases neg
    · simp only [sgn, Bool.false_eq_true, if_false]
      rw [hs, Int.mul_neg]
      generalize (D : Int) * (v.natAbs : Int) = q at *
      generalize (D : Int) * (V t : Int) = p at *
      omega
    · simp only [sgn, if_true]
      rw [hs, Int.mul_neg, Int.mul_neg]
      generalize (D : Int) * (v.natAbs : Int) = q at *
      generalize (D : Int) * (V t : Int) = p at *
      omega
theorem Near.ge {r : UInt64} {X v : Int} {D : Nat} (h : Near r X D) (hD : 0 < D) (hv : Rep v) (hx : D * v ≤ X) : v ≤ val r := by
  by_cases c : v ≤ val r
  · exact c
  · have := h.near v hv
    have h2 : (D : Int) * val r < D * v := Int.mul_lt_mul_of_pos_left (by omega) (by omega)
    omega
theorem Near.le {r : UInt64} {X v : Int} {D : Nat} (h : Near r X D) (hD : 0 < D) (hv : Rep v) (hx : X ≤ D * v) : val r ≤ v := by
  by_cases c : val r ≤ v
  · exact c
  · have := h.near v hv
    have h2 : (D : Int) * v < D * val r := Int.mul_lt_mul_of_pos_left (by omega) (by omega)
    omega
/-- strictly below N: the number below N at a 2 ^ 19th is nearer -/
theorem Near.lt {r : UInt64} {X N : Int} {D : Nat} (h : Near r X D) (hD : 0 < D) (hN : N.natAbs < 2 ^ 34) (hx : D * (4 * P) < 2 ^ 20 * (D * (N * (4 * (P : Int))) - X)) : val r < N * (4 * (P : Int)) := by
  by_cases c : val r < N * (4 * (P : Int))
  · exact c
  · have hrep : Rep ((N * 2 ^ 19 - 1) * 2 ^ 1055) := rep_int 1055 (by omega) (by omega) (by omega)
    have := h.near _ hrep
    have e1 : (4 * (P : Int)) = 2 ^ 19 * 2 ^ 1055 := by rw [← MI_eq, ← Int.pow_add]
    have hk : (0 : Int) < 2 ^ 1055 := Int.pow_pos (by decide)
    generalize (2 : Int) ^ 1055 = k at *
    rw [e1] at c hx
    have e2 : D * (N * (2 ^ 19 * k)) = D * ((N * 2 ^ 19 - 1) * k) + D * k := by
      rw [← Int.mul_add]; congr 1
      rw [Int.sub_mul, Int.one_mul, ← Int.mul_assoc]; omega
    have h2 : (D : Int) * (N * (2 ^ 19 * k)) ≤ D * val r := Int.mul_le_mul_of_nonneg_left (by omega) (by omega)
    have h3 : (0 : Int) < D * k := Int.mul_pos (by omega) hk
    have e3 : (D : Int) * (2 ^ 19 * k) = 2 ^ 19 * (D * k) := by rw [Int.mul_left_comm]
    rw [e3] at hx
    rw [e2] at hx h2
    generalize (D : Int) * ((N * 2 ^ 19 - 1) * k) = y at *
    generalize (D : Int) * k = g at *
    generalize (D : Int) * val r = z at *
    omega
theorem Near.gt {r : UInt64} {X N : Int} {D : Nat} (h : Near r X D) (hD : 0 < D) (hN : N.natAbs < 2 ^ 34) (hx : D * (4 * P) < 2 ^ 20 * (X - D * (N * (4 * (P : Int))))) : N * (4 * (P : Int)) < val r := by
  by_cases c : N * (4 * (P : Int)) < val r
  · exact c
  · have hrep : Rep ((N * 2 ^ 19 + 1) * 2 ^ 1055) := rep_int 1055 (by omega) (by omega) (by omega)
    have := h.near _ hrep
    have e1 : (4 * (P : Int)) = 2 ^ 19 * 2 ^ 1055 := by rw [← MI_eq, ← Int.pow_add]
    have hk : (0 : Int) < 2 ^ 1055 := Int.pow_pos (by decide)
    generalize (2 : Int) ^ 1055 = k at *
    rw [e1] at c hx
    have e2 : D * ((N * 2 ^ 19 + 1) * k) = D * (N * (2 ^ 19 * k)) + D * k := by
      rw [← Int.mul_add]; congr 1
      rw [Int.add_mul, Int.one_mul, ← Int.mul_assoc]
    have h2 : (D : Int) * val r ≤ D * (N * (2 ^ 19 * k)) := Int.mul_le_mul_of_nonneg_left (by omega) (by omega)
    have h3 : (0 : Int) < D * k := Int.mul_pos (by omega) hk
    have e3 : (D : Int) * (2 ^ 19 * k) = 2 ^ 19 * (D * k) := by rw [Int.mul_left_comm]
    rw [e3] at hx
    rw [e2] at this
    generalize (D : Int) * (N * (2 ^ 19 * k)) = y at *
    generalize (D : Int) * k = g at *
    generalize (D : Int) * val r = z at *
    omega
theorem fin_dec {x : UInt64} (h : isFinite x = true) : ∃ a m e, decode x = .fin a m e := by
  unfold isFinite at h
  cases hd : decode x with
  | nan => rw [hd] at h; cases h
  | inf a => rw [hd] at h; cases h
  | fin a m e => exact ⟨a, m, e, rfl⟩
theorem rep_N {N : Int} (hN : N.natAbs ≤ 2 ^ 34) : Rep (N * (4 * (P : Int))) := by
  rw [← MI_eq]; exact rep_int 1074 (by omega) (by omega) (by omega)
theorem Near.floor {r : UInt64} {X N : Int} {D : Nat} (h : Near r X D) (hD : 0 < D) (hN : N.natAbs < 2 ^ 34 - 1) (h1 : D * (N * (4 * (P : Int))) ≤ X) (h2 : D * (4 * P) < 2 ^ 20 * (D * ((N + 1) * (4 * (P : Int))) - X)) : toInt floorOf r = N := by
  obtain ⟨a, m, e, hd⟩ := fin_dec h.fin
  rw [toInt_fin hd, floorOf_val hd]
  have a1 := h.ge hD (rep_N (by omega)) h1
  have a2 := h.lt (N := N + 1) hD (by omega) h2
  have hp := P_pos
  rw [Int.ediv_eq_iff_of_pos (by omega)]
  exact ⟨a1, by rw [Int.add_mul, Int.one_mul] at a2; exact a2⟩
theorem Near.ceil {r : UInt64} {X N : Int} {D : Nat} (h : Near r X D) (hD : 0 < D) (hN : N.natAbs < 2 ^ 34 - 1) (h1 : X ≤ D * (N * (4 * (P : Int)))) (h2 : D * (4 * P) < 2 ^ 20 * (X - D * ((N - 1) * (4 * (P : Int))))) : toInt ceilOf r = N := by
  obtain ⟨a, m, e, hd⟩ := fin_dec h.fin
  rw [toInt_fin hd, ceilOf_val hd]
  have a1 := h.le hD (rep_N (by omega)) h1
  have a2 := h.gt (N := N - 1) hD (by omega) h2
  have hp := P_pos
  have : (-val r) / (4 * (P : Int)) = -N := by
    rw [Int.ediv_eq_iff_of_pos (by omega)]
    constructor
    · rw [Int.neg_mul]; omega
    · rw [Int.sub_mul, Int.one_mul] at a2; rw [Int.neg_mul]; omega
  omega
end Mine
end
section
open PySem PySem.Float64 PySem.Flt
namespace Mine

theorem sgn_dec' (k : Int) (n : Nat) : sgn (decide (k < 0)) (k.natAbs * n) = k * (n : Int) := sgn_dec k n
/-- n / d for ints, d > 0 -/
theorem near_frac {n d : Int} (hd : 0 < d) (hn : n.natAbs ≤ 2 ^ 62) : Near (ofFrac (decide (n < 0) != decide (d < 0)) n.natAbs d.natAbs) (n * (4 * (P : Int))) d.natAbs := by
  have e : (decide (n < 0) != decide (d < 0)) = decide (n < 0) := by
    have : ¬ d < 0 := by omega
    simp [this]
  rw [e]
  have h := near_of (ofFrac_right (neg := decide (n < 0)) (n := n.natAbs) (d := d.natAbs) (W := n.natAbs * 2 ^ 1074) (D := d.natAbs) (by omega) rfl (by omega)) (by omega) (by
    have h1 : n.natAbs * 2 ^ 1074 ≤ 2 ^ 62 * 2 ^ 1074 := Nat.mul_le_mul_right _ hn
    have h2 : 2 ^ 62 * 2 ^ 1074 ≤ 2 ^ 1990 := by rw [← Nat.pow_add]; exact Nat.pow_le_pow_right (by decide) (by decide)
    exact Nat.le_trans h1 (Nat.le_trans h2 (Nat.le_mul_of_pos_left _ (by omega))))
  rw [sgn_dec, M_eq] at h
  rw [Int.natCast_mul] at h
  exact h
theorem fin_frac {n d : Int} (hd : 0 < d) (hn : n.natAbs ≤ 2 ^ 62) : isFinite (ofFrac (decide (n < 0) != decide (d < 0)) n.natAbs d.natAbs) = true := (near_frac hd hn).fin
theorem mulmul (d N p : Int) : d * (N * (4 * p)) = d * N * (4 * p) := (Int.mul_assoc ..).symm
theorem low_ok {n d N p : Int} (hp : 0 < p) (h : d * N ≤ n) : d * (N * (4 * p)) ≤ n * (4 * p) := by
  rw [mulmul]; exact Int.mul_le_mul_of_nonneg_right h (by omega)
theorem gap_ok {n d N p : Int} (hp : 0 < p) (h : d < 2 ^ 20 * (d * (N + 1) - n)) : d * (4 * p) < 2 ^ 20 * (d * ((N + 1) * (4 * p)) - n * (4 * p)) := by
  rw [mulmul, ← Int.sub_mul, ← Int.mul_assoc (2 ^ 20)]
  exact Int.mul_lt_mul_of_pos_right h (by omega)
theorem up_ok {n d N p : Int} (hp : 0 < p) (h : n ≤ d * N) : n * (4 * p) ≤ d * (N * (4 * p)) := by
  rw [mulmul]; exact Int.mul_le_mul_of_nonneg_right h (by omega)
theorem gap_ok' {n d N p : Int} (hp : 0 < p) (h : d < 2 ^ 20 * (n - d * (N - 1))) : d * (4 * p) < 2 ^ 20 * (n * (4 * p) - d * ((N - 1) * (4 * p))) := by
  rw [mulmul, ← Int.sub_mul, ← Int.mul_assoc (2 ^ 20)]
  exact Int.mul_lt_mul_of_pos_right h (by omega)
theorem PI_pos : (0 : Int) < (P : Int) := by have := P_pos; omega
theorem ediv_gap {n d : Int} (hd : 0 < d) (hd2 : d < 2 ^ 20) : d * (n / d) ≤ n ∧ d < 2 ^ 20 * (d * (n / d + 1) - n) := by
  have h1 := Int.mul_ediv_add_emod n d
  have h2 := Int.emod_nonneg n (show d ≠ 0 by omega)
  have h3 := Int.emod_lt_of_pos n hd
  rw [Int.mul_add, Int.mul_one]
  omega
theorem floor_frac {n d : Int} (hd : 0 < d) (hd2 : d < 2 ^ 20) (hn : n.natAbs ≤ 2 ^ 62) (hq : (n / d).natAbs < 2 ^ 34 - 1) :
    toInt floorOf (ofFrac (decide (n < 0) != decide (d < 0)) n.natAbs d.natAbs) = n / d := by
  have h := near_frac hd hn
  have e : (d.natAbs : Int) = d := by omega
  have g := ediv_gap (n := n) hd hd2
  refine h.floor (by omega) hq ?_ ?_
  · rw [e]; exact low_ok PI_pos g.1
  · rw [e]; exact gap_ok PI_pos g.2

/-- quarter numbers divided -/
theorem near_div {a b : Int} (ha : a.natAbs ≤ 2 ^ 53) (hb : b.natAbs ≤ 2 ^ 53) (hb0 : 0 < b) : Near (div (H a) (H b)) (a * P * (4 * (P : Int))) (b.natAbs * P) := by
  obtain ⟨m, e, hd, hv⟩ := H_spec ha
  obtain ⟨n, f, hg, hw⟩ := H_spec hb
  have hk : n ≠ 0 := by
    intro z
    have := val_natAbs hg
    rw [z, hw, natAbs_mulP, Nat.zero_mul] at this
    have := Nat.mul_pos (show 0 < b.natAbs by omega) P_pos
    omega
  have hr := div_right hd hg hk
  have e1 : (decide (a < 0) != decide (b < 0)) = decide (a < 0) := by
    have : ¬ b < 0 := by omega
    simp [this]
  rw [e1, hv, hw, natAbs_mulP, natAbs_mulP] at hr
  have h := near_of hr (Nat.mul_pos (by omega) P_pos) (by
    have h1 : a.natAbs * P * 2 ^ 1074 ≤ 2 ^ 53 * P * 2 ^ 1074 := Nat.mul_le_mul_right _ (Nat.mul_le_mul_right _ ha)
    have h2 : 2 ^ 53 * P * 2 ^ 1074 = P * 2 ^ 1127 := by rw [Nat.mul_comm (2 ^ 53), Nat.mul_assoc, ← Nat.pow_add]
    have h3 : P * 2 ^ 1127 ≤ b.natAbs * P * 2 ^ 1990 := Nat.mul_le_mul (Nat.le_mul_of_pos_left _ (by omega)) (Nat.pow_le_pow_right (by decide) (by decide))
    omega)
  rw [Nat.mul_assoc, sgn_dec, M_eq, Int.natCast_mul, Int.natCast_mul, ← Int.mul_assoc] at h
  exact h
theorem fin_div {a b : Int} (ha : a.natAbs ≤ 2 ^ 53) (hb : b.natAbs ≤ 2 ^ 53) (hb0 : 0 < b) : isFinite (div (H a) (H b)) = true := (near_div ha hb hb0).fin
theorem scaled_low {a b N p : Int} (hp : 0 < p) (h : b * N ≤ a) : b * p * (N * (4 * p)) ≤ a * p * (4 * p) := by
  have e : b * p * (N * (4 * p)) = b * N * p * (4 * p) := by ac_rfl
  rw [e]; exact Int.mul_le_mul_of_nonneg_right (Int.mul_le_mul_of_nonneg_right h (by omega)) (by omega)
theorem scaled_up {a b N p : Int} (hp : 0 < p) (h : a ≤ b * N) : a * p * (4 * p) ≤ b * p * (N * (4 * p)) := by
  have e : b * p * (N * (4 * p)) = b * N * p * (4 * p) := by ac_rfl
  rw [e]; exact Int.mul_le_mul_of_nonneg_right (Int.mul_le_mul_of_nonneg_right h (by omega)) (by omega)
theorem scaled_gap {a b N p : Int} (hp : 0 < p) (h : b < 2 ^ 20 * (b * N - a)) : b * p * (4 * p) < 2 ^ 20 * (b * p * (N * (4 * p)) - a * p * (4 * p)) := by
  have e : b * p * (N * (4 * p)) = b * N * p * (4 * p) := by ac_rfl
  rw [e, ← Int.sub_mul, ← Int.sub_mul]
  have h2 := Int.mul_lt_mul_of_pos_right (Int.mul_lt_mul_of_pos_right h hp) (show 0 < 4 * p by omega)
  rw [Int.mul_assoc (2 ^ 20), Int.mul_assoc (2 ^ 20)] at h2
  exact h2
theorem scaled_gap' {a b N p : Int} (hp : 0 < p) (h : b < 2 ^ 20 * (a - b * N)) : b * p * (4 * p) < 2 ^ 20 * (a * p * (4 * p) - b * p * (N * (4 * p))) := by
  have e : b * p * (N * (4 * p)) = b * N * p * (4 * p) := by ac_rfl
  rw [e, ← Int.sub_mul, ← Int.sub_mul]
  have h2 := Int.mul_lt_mul_of_pos_right (Int.mul_lt_mul_of_pos_right h hp) (show 0 < 4 * p by omega)
  rw [Int.mul_assoc (2 ^ 20), Int.mul_assoc (2 ^ 20)] at h2
  exact h2
theorem floor_div {a b : Int} (ha : a.natAbs ≤ 2 ^ 53) (hb0 : 0 < b) (hb : b < 2 ^ 20) (hq : (a / b).natAbs < 2 ^ 34 - 1) : toInt floorOf (div (H a) (H b)) = a / b := by
  have h := near_div ha (by omega) hb0
  have e : ((b.natAbs * P : Nat) : Int) = b * (P : Int) := by rw [Int.natCast_mul]; congr 1; omega
  have g := ediv_gap (n := a) hb0 hb
  refine h.floor (Nat.mul_pos (by omega) P_pos) hq ?_ ?_
  · rw [e]; exact scaled_low PI_pos g.1
  · rw [e]; exact scaled_gap PI_pos g.2
theorem ceil_div {a b : Int} (ha : a.natAbs ≤ 2 ^ 53) (hb0 : 0 < b) (hb : b < 2 ^ 20) (hq : (-((-a) / b)).natAbs < 2 ^ 34 - 1) : toInt ceilOf (div (H a) (H b)) = -((-a) / b) := by
  have h := near_div ha (by omega) hb0
  have e : ((b.natAbs * P : Nat) : Int) = b * (P : Int) := by rw [Int.natCast_mul]; congr 1; omega
  have g := ediv_gap (n := -a) hb0 hb
  rw [Int.mul_add, Int.mul_one] at g
  refine h.ceil (Nat.mul_pos (by omega) P_pos) hq ?_ ?_
  · rw [e]; refine scaled_up PI_pos ?_; rw [Int.mul_neg]; omega
  · rw [e]; refine scaled_gap' PI_pos ?_; rw [Int.mul_sub b, Int.mul_neg, Int.mul_one]; omega

/-- the sign bit of a quotient of numbers not below nought -/
theorem trunc_of_pos {r : UInt64} {W D : Nat} (hr : Right r false W D) (hD : 0 < D) (hW : W ≤ D * 2 ^ 1990) : toInt truncOf r = toInt floorOf r := by
  obtain ⟨t, hp, hle, hov, hn⟩ := hr
  have hlt : t < infMag := by
    rcases Nat.lt_or_eq_of_le hle with h | h
    · exact h
    · have h9 := hov.mp h
      exact absurd (Nat.le_trans h9 (Nat.mul_le_mul_left 2 hW)) (not_over hD (Nat.le_refl _))
  obtain ⟨m, e, hd, hm⟩ := decode_pack false hlt
  rw [hp, toInt_fin hd, toInt_fin hd]
  rfl
theorem trunc_frac {n d : Int} (hn0 : 0 ≤ n) (hd : 0 < d) (hd2 : d < 2 ^ 20) (hn : n.natAbs ≤ 2 ^ 62) (hq : (n / d).natAbs < 2 ^ 34 - 1) :
    toInt truncOf (ofFrac (decide (n < 0) != decide (d < 0)) n.natAbs d.natAbs) = n / d := by
  rw [← floor_frac hd hd2 hn hq]
  have e : (decide (n < 0) != decide (d < 0)) = false := by
    have : ¬ d < 0 := by omega
    have : ¬ n < 0 := by omega
    simp [*]
  rw [e]
  refine trunc_of_pos (ofFrac_right (n := n.natAbs) (d := d.natAbs) (W := n.natAbs * 2 ^ 1074) (D := d.natAbs) (by omega) rfl (by omega)) (by omega) ?_
  have h1 : n.natAbs * 2 ^ 1074 ≤ 2 ^ 62 * 2 ^ 1074 := Nat.mul_le_mul_right _ hn
  have h2 : 2 ^ 62 * 2 ^ 1074 ≤ 2 ^ 1990 := by rw [← Nat.pow_add]; exact Nat.pow_le_pow_right (by decide) (by decide)
  exact Nat.le_trans h1 (Nat.le_trans h2 (Nat.le_mul_of_pos_left _ (by omega)))
theorem trunc_div {a b : Int} (ha0 : 0 ≤ a) (ha : a.natAbs ≤ 2 ^ 53) (hb0 : 0 < b) (hb : b < 2 ^ 20) (hq : (a / b).natAbs < 2 ^ 34 - 1) : toInt truncOf (div (H a) (H b)) = a / b := by
  rw [← floor_div ha hb0 hb hq]
  obtain ⟨m, e, hd, hv⟩ := H_spec ha
  obtain ⟨n, f, hg, hw⟩ := H_spec (k := b) (by omega)
  have hk : n ≠ 0 := by
    intro z
    have := val_natAbs hg
    rw [z, hw, natAbs_mulP, Nat.zero_mul] at this
    have := Nat.mul_pos (show 0 < b.natAbs by omega) P_pos
    omega
  have hr := div_right hd hg hk
  have e1 : (decide (a < 0) != decide (b < 0)) = false := by
    have : ¬ b < 0 := by omega
    have : ¬ a < 0 := by omega
    simp [*]
  rw [e1, hv, hw, natAbs_mulP, natAbs_mulP] at hr
  refine trunc_of_pos hr (Nat.mul_pos (by omega) P_pos) ?_
  have h1 : a.natAbs * P * 2 ^ 1074 ≤ 2 ^ 53 * P * 2 ^ 1074 := Nat.mul_le_mul_right _ (Nat.mul_le_mul_right _ ha)
  have h2 : 2 ^ 53 * P * 2 ^ 1074 = P * 2 ^ 1127 := by rw [Nat.mul_comm (2 ^ 53), Nat.mul_assoc, ← Nat.pow_add]
  have h3 : P * 2 ^ 1127 ≤ b.natAbs * P * 2 ^ 1990 := Nat.mul_le_mul (Nat.le_mul_of_pos_left _ (by omega)) (Nat.pow_le_pow_right (by decide) (by decide))
  omega

/-- the remainder, both not below nought -/
theorem ofBin_right (neg : Bool) (n : Nat) (g : Int) (hg : -1074 ≤ g) : Right (ofBin neg n g) neg (n * 2 ^ (g + 1074).toNat) 1 := by
  unfold ofBin
  refine ofFrac_right (shift_pos _ _ _ (by decide)) ?_ (by decide)
  have := shift_one n g 1074 (by omega)
  rw [Nat.mul_one]
  exact this
theorem fmod_H {a b : Int} (ha0 : 0 ≤ a) (ha : a.natAbs ≤ 2 ^ 53) (hb0 : 0 < b) (hb : b.natAbs ≤ 2 ^ 53) : fmod (H a) (H b) = H (a % b) := by
  obtain ⟨m, e, hd, hv⟩ := H_spec ha
  obtain ⟨k, f, hg, hw⟩ := H_spec hb
  have he := decode_ge hd
  have hf := decode_ge hg
  have hva := val_natAbs hd
  have hvb := val_natAbs hg
  rw [hv, natAbs_mulP] at hva
  rw [hw, natAbs_mulP] at hvb
  have hk : (k == 0) = false := by
    cases hz : k == 0
    · rfl
    · rw [beq_iff_eq] at hz
      rw [hz, Nat.zero_mul] at hvb
      have := Nat.mul_pos (show 0 < b.natAbs by omega) P_pos
      omega
  have h1 : fmod (H a) (H b) = ofBin (decide (a < 0)) ((m * 2 ^ (e - min e f).toNat) % (k * 2 ^ (f - min e f).toNat)) (min e f) := by
    unfold fmod
    rw [hd, hg]
    simp only [hk, Bool.false_eq_true, if_false]
    rfl
  rw [h1]
  have hr := ofBin_right (decide (a < 0)) ((m * 2 ^ (e - min e f).toNat) % (k * 2 ^ (f - min e f).toNat)) (min e f) (by omega)
  rw [← Nat.mul_mod_mul_right, Nat.mul_assoc, Nat.mul_assoc, ← Nat.pow_add, ← Nat.pow_add, show (e - min e f).toNat + (min e f + 1074).toNat = (e + 1074).toNat by omega, show (f - min e f).toNat + (min e f + 1074).toNat = (f + 1074).toNat by omega, ← hva, ← hvb, Nat.mul_mod_mul_right] at hr
  have hm1 := Int.emod_nonneg a (show b ≠ 0 by omega)
  have hm2 := Int.emod_lt_of_pos a hb0
  have hmn : (a % b).natAbs = a.natAbs % b.natAbs := by
    have : ((a.natAbs % b.natAbs : Nat) : Int) = a % b := by
      rw [Int.natCast_emod, show (a.natAbs : Int) = a by omega, show (b.natAbs : Int) = b by omega]
    omega
  refine right_exact hr (by decide) (by omega) (by rw [Nat.one_mul, hmn]) ?_
  exact decide_eq_decide.mpr (by omega)
theorem dec_of_H {k : Int} (hk : k.natAbs ≤ 2 ^ 53) : ∃ m e, decode (H k) = .fin (decide (k < 0)) m e ∧ (m = 0 ↔ k = 0) := by
  obtain ⟨m, e, hd, hv⟩ := H_spec hk
  refine ⟨m, e, hd, ?_⟩
  have h := val_natAbs hd
  rw [hv, natAbs_mulP] at h
  constructor
  · intro z
    rw [z, Nat.zero_mul] at h
    rcases Nat.mul_eq_zero.mp h with q | q
    · omega
    · have := P_pos; omega
  · intro z
    rw [z] at h
    have h2 : m * 2 ^ (e + 1074).toNat = 0 := by rw [← h, Int.natAbs_zero, Nat.zero_mul]
    rcases Nat.mul_eq_zero.mp h2 with q | q
    · exact q
    · exact absurd q (Nat.ne_of_gt (Nat.two_pow_pos _))
theorem isZero_H {k : Int} (hk : k.natAbs ≤ 2 ^ 53) : isZero (H k) = decide (k = 0) := by
  obtain ⟨m, e, hd, hz⟩ := dec_of_H hk
  unfold isZero
  rw [hd]
  by_cases q : k = 0
  · rw [hz.mpr q]; simp [q]
  · have : m ≠ 0 := fun x => q (hz.mp x)
    simp only [q, decide_false]
    split
    · rename_i h; cases h; exact absurd rfl this
    · rfl
theorem lt_H {a b : Int} (ha : a.natAbs ≤ 2 ^ 53) (hb : b.natAbs ≤ 2 ^ 53) : lt (H a) (H b) = decide (a < b) := by
  obtain ⟨m, e, hd, hv⟩ := H_spec ha
  obtain ⟨k, f, hg, hw⟩ := H_spec hb
  unfold lt
  rw [cmp_right hd hg, hv, hw, compare_scale PI_pos]
  by_cases q : a < b
  · rw [Int.compare_eq_lt.mpr q]; simp [q]
  · have : compare a b ≠ .lt := fun x => q (Int.compare_eq_lt.mp x)
    simp only [q, decide_false]
    cases h : compare a b <;> simp_all
theorem mod_H {a b : Int} (ha0 : 0 ≤ a) (ha : a.natAbs ≤ 2 ^ 53) (hb0 : 0 < b) (hb : b.natAbs ≤ 2 ^ 53) : (divmod (H a) (H b)).2 = H (a % b) := by
  have hm1 := Int.emod_nonneg a (show b ≠ 0 by omega)
  have hm2 := Int.emod_lt_of_pos a hb0
  have hs : copysign (zero false) (H b) = H 0 := by
    obtain ⟨k, f, hg, _⟩ := H_spec hb
    obtain ⟨ht, _⟩ := T_spec _ hb
    have hi : infMag = 2047 * 2 ^ 52 := rfl
    have hsb : signBit (H b) = false := by
      unfold signBit
      have : ¬ b < 0 := by omega
      rw [H_eq, pack_toNat _ (by omega)]
      simp only [this, decide_false, Bool.false_eq_true, if_false]
      rw [Nat.zero_add, Nat.div_eq_of_lt (by omega)]
      rfl
    unfold copysign
    rw [hsb, H_zero]
    decide +kernel
  unfold divmod
  simp only [fmod_H ha0 ha hb0 hb, isZero_H (show (a % b).natAbs ≤ 2 ^ 53 by omega)]
  by_cases z : a % b = 0
  · simp only [z, decide_true, if_true, hs]
  · simp only [z, decide_false, Bool.false_eq_true, if_false]
    rw [← H_zero, lt_H hb (by decide), lt_H (by omega) (by decide)]
    have e1 : ¬ b < 0 := by omega
    have e2 : ¬ a % b < 0 := by omega
    simp [e1, e2]
end Mine
end
section
open PySem PySem.W PyProof.Rows PySem.Calls
namespace Mine

/-- the double of n / d -/
def Qt (n d : Int) : UInt64 := Float64.ofFrac (decide (n < 0) != decide (d < 0)) n.natAbs d.natAbs
theorem isInf_of_fin {x : UInt64} (h : Float64.isFinite x = true) : ¬ Float64.isInf x = true := by
  unfold Float64.isFinite at h
  unfold Float64.isInf
  cases hd : Float64.decode x with
  | nan => rw [hd] at h; cases h
  | inf a => rw [hd] at h; cases h
  | fin a m e => simp
theorem isNaN_of_fin {x : UInt64} (h : Float64.isFinite x = true) : ¬ Float64.isNaN x = true := by
  unfold Float64.isFinite at h
  unfold Float64.isNaN
  cases hd : Float64.decode x with
  | nan => rw [hd] at h; cases h
  | inf a => rw [hd] at h; cases h
  | fin a m e => simp
theorem fits_of {n : Int} (h : n.natAbs ≤ 2 ^ 51) : n.natAbs < 2 ^ 1023 := Nat.lt_of_le_of_lt h (Nat.pow_lt_pow_right (by decide) (by decide))
theorem notOver_of {n : Int} (h : n.natAbs ≤ 2 ^ 51) : ¬ Flt.Over n := by
  intro ho
  have h1 := Flt.inf_of_over ho
  rw [ofInt_H h] at h1
  exact isInf_of_fin (fin_H (by omega)) h1
theorem nzH {k : Int} (hk : k.natAbs ≤ 2 ^ 53) (h : k ≠ 0) : ¬ Float64.isZero (H k) = true := by
  rw [isZero_H hk]; simpa using h

section
variable {prog : Program} {w : World} {A : Around} {E : Value → Shared → Prop} {s : Shared} {t u : Tok} {Q : Value → Shared → Prop} {x y : UInt64} {k l n : Int}
-- sums
theorem r_add_fi (e : x = H k) (h1 : k.natAbs ≤ 2 ^ 53) (h2 : n.natAbs ≤ 2 ^ 51) (h3 : (k + 4 * n).natAbs ≤ 2 ^ 53) (h : Q (.float (H (k + 4 * n)) s.toks) { s with toks := s.toks + 1 }) :
    wpAny (model prog w) A (binaryOp .Add (.float x t) (.int n u)) Q E s := by
  refine add_fi_fits (fits_of h2) ?_
  rw [e, ofInt_H h2, add_H h1 (by omega) h3]; exact h
theorem r_add_if (e : x = H k) (h1 : k.natAbs ≤ 2 ^ 53) (h2 : n.natAbs ≤ 2 ^ 51) (h3 : (4 * n + k).natAbs ≤ 2 ^ 53) (h : Q (.float (H (4 * n + k)) s.toks) { s with toks := s.toks + 1 }) :
    wpAny (model prog w) A (binaryOp .Add (.int n u) (.float x t)) Q E s := by
  refine add_if_fits (fits_of h2) ?_
  rw [e, ofInt_H h2, add_H (by omega) h1 h3]; exact h
theorem r_add_ff (e : x = H k) (f : y = H l) (h1 : k.natAbs ≤ 2 ^ 53) (h2 : l.natAbs ≤ 2 ^ 53) (h3 : (k + l).natAbs ≤ 2 ^ 53) (h : Q (.float (H (k + l)) s.toks) { s with toks := s.toks + 1 }) :
    wpAny (model prog w) A (binaryOp .Add (.float x t) (.float y u)) Q E s := by
  refine add_float ?_
  rw [e, f, add_H h1 h2 h3]; exact h
theorem r_iadd_ff (e : x = H k) (f : y = H l) (h1 : k.natAbs ≤ 2 ^ 53) (h2 : l.natAbs ≤ 2 ^ 53) (h3 : (k + l).natAbs ≤ 2 ^ 53) (h : Q (.float (H (k + l)) s.toks) { s with toks := s.toks + 1 }) :
    wpAny (model prog w) A (inplaceOp .Add (.float x t) (.float y u)) Q E s := by
  refine iadd_float ?_
  rw [e, f, add_H h1 h2 h3]; exact h
theorem r_iadd_fi (e : x = H k) (hA : A.handled = none) (h1 : k.natAbs ≤ 2 ^ 53) (h2 : n.natAbs ≤ 2 ^ 51) (h3 : (k + 4 * n).natAbs ≤ 2 ^ 53) (h : Q (.float (H (k + 4 * n)) s.toks) { s with toks := s.toks + 1 }) :
    wpAny (model prog w) A (inplaceOp .Add (.float x t) (.int n u)) Q E s := by
  refine Flt.iadd_fi hA (fun o => absurd o (notOver_of h2)) fun _ => ?_
  rw [e, ofInt_H h2, add_H h1 (by omega) h3]; exact h
-- differences
theorem r_sub_fi (e : x = H k) (h1 : k.natAbs ≤ 2 ^ 53) (h2 : n.natAbs ≤ 2 ^ 51) (h3 : (k - 4 * n).natAbs ≤ 2 ^ 53) (h : Q (.float (H (k - 4 * n)) s.toks) { s with toks := s.toks + 1 }) :
    wpAny (model prog w) A (binaryOp .Sub (.float x t) (.int n u)) Q E s := by
  refine sub_fi_fits (fits_of h2) ?_
  rw [e, ofInt_H h2, sub_H h1 (by omega) h3]; exact h
theorem r_sub_if (e : x = H k) (h1 : k.natAbs ≤ 2 ^ 53) (h2 : n.natAbs ≤ 2 ^ 51) (h3 : (4 * n - k).natAbs ≤ 2 ^ 53) (h : Q (.float (H (4 * n - k)) s.toks) { s with toks := s.toks + 1 }) :
    wpAny (model prog w) A (binaryOp .Sub (.int n u) (.float x t)) Q E s := by
  refine sub_if_fits (fits_of h2) ?_
  rw [e, ofInt_H h2, sub_H (by omega) h1 h3]; exact h
theorem r_sub_ff (e : x = H k) (f : y = H l) (h1 : k.natAbs ≤ 2 ^ 53) (h2 : l.natAbs ≤ 2 ^ 53) (h3 : (k - l).natAbs ≤ 2 ^ 53) (h : Q (.float (H (k - l)) s.toks) { s with toks := s.toks + 1 }) :
    wpAny (model prog w) A (binaryOp .Sub (.float x t) (.float y u)) Q E s := by
  refine sub_float ?_
  rw [e, f, sub_H h1 h2 h3]; exact h
-- products
theorem r_mul_if {c : Int} (e : x = H k) (hc : n * k = c) (h1 : k.natAbs ≤ 2 ^ 53) (h2 : n.natAbs ≤ 2 ^ 51) (h3 : c.natAbs ≤ 2 ^ 53) (hp : 0 < n ∨ 0 < k) (h : Q (.float (H c) s.toks) { s with toks := s.toks + 1 }) :
    wpAny (model prog w) A (binaryOp .Mult (.int n u) (.float x t)) Q E s := by
  refine mul_if_fits (fits_of h2) ?_
  rw [e, ofInt_H h2, mul_H (by omega) h1 h3 (by rw [Int.mul_assoc, hc]) (by omega)]; exact h
theorem r_mul_fi {c : Int} (e : x = H k) (hc : k * n = c) (h1 : k.natAbs ≤ 2 ^ 53) (h2 : n.natAbs ≤ 2 ^ 51) (h3 : c.natAbs ≤ 2 ^ 53) (hp : 0 < k ∨ 0 < n) (h : Q (.float (H c) s.toks) { s with toks := s.toks + 1 }) :
    wpAny (model prog w) A (binaryOp .Mult (.float x t) (.int n u)) Q E s := by
  refine mul_fi_fits (fits_of h2) ?_
  rw [e, ofInt_H h2, mul_H h1 (by omega) h3 (by rw [Int.mul_left_comm, hc]) (by omega)]; exact h
theorem r_mul_ff {c : Int} (e : x = H k) (f : y = H (4 * l)) (hc : k * l = c) (h1 : k.natAbs ≤ 2 ^ 53) (h2 : l.natAbs ≤ 2 ^ 51) (h3 : c.natAbs ≤ 2 ^ 53) (hp : 0 < k ∨ 0 < l) (h : Q (.float (H c) s.toks) { s with toks := s.toks + 1 }) :
    wpAny (model prog w) A (binaryOp .Mult (.float x t) (.float y u)) Q E s := by
  refine mul_float ?_
  rw [e, f, mul_H h1 (by omega) h3 (by rw [Int.mul_left_comm, hc]) (by omega)]; exact h
-- quotients
theorem r_div_ii {d : Int} (hA : A.handled = none) (h1 : n.natAbs ≤ 2 ^ 62) (h2 : 0 < d) (h : Q (.float (Qt n d) s.toks) { s with toks := s.toks + 1 }) :
    wpAny (model prog w) A (binaryOp .Div (.int n t) (.int d u)) Q E s :=
  Flt.div_ii hA (fun z => absurd z (by omega)) (fun _ hi => absurd hi (isInf_of_fin (fin_frac h2 h1))) fun _ _ => h
theorem r_div_fi {d : Int} (e : x = H k) (hA : A.handled = none) (h1 : d.natAbs ≤ 2 ^ 51) (h2 : 0 < d) (h : Q (.float (Float64.div (H k) (H (4 * d))) s.toks) { s with toks := s.toks + 1 }) :
    wpAny (model prog w) A (binaryOp .Div (.float x t) (.int d u)) Q E s := by
  refine Flt.truediv_fi hA (fun o => absurd o (notOver_of h1)) (fun z => absurd z (by omega)) fun _ _ => ?_
  rw [e, ofInt_H h1]; exact h
theorem r_div_if (e : x = H k) (hA : A.handled = none) (h1 : n.natAbs ≤ 2 ^ 51) (h2 : 0 < k) (h3 : k.natAbs ≤ 2 ^ 53) (h : Q (.float (Float64.div (H (4 * n)) (H k)) s.toks) { s with toks := s.toks + 1 }) :
    wpAny (model prog w) A (binaryOp .Div (.int n t) (.float x u)) Q E s := by
  refine Flt.truediv_if hA (fun o => absurd o (notOver_of h1)) (fun _ z => absurd z (by rw [e]; exact nzH h3 (by omega))) fun _ _ => ?_
  rw [e, ofInt_H h1]; exact h
theorem r_div_ff (e : x = H k) (f : y = H l) (hA : A.handled = none) (h2 : 0 < l) (h3 : l.natAbs ≤ 2 ^ 53) (h : Q (.float (Float64.div (H k) (H l)) s.toks) { s with toks := s.toks + 1 }) :
    wpAny (model prog w) A (binaryOp .Div (.float x t) (.float y u)) Q E s := by
  refine truediv_float_or hA (fun z => absurd z (by rw [f]; exact nzH h3 (by omega))) fun _ => ?_
  rw [e, f]; exact h
theorem r_mod_if (e : x = H k) (hA : A.handled = none) (h0 : 0 ≤ n) (h1 : n.natAbs ≤ 2 ^ 51) (h2 : 0 < k) (h3 : k.natAbs ≤ 2 ^ 53) (h : Q (.float (H (4 * n % k)) s.toks) { s with toks := s.toks + 1 }) :
    wpAny (model prog w) A (binaryOp .Mod (.int n t) (.float x u)) Q E s := by
  refine Flt.mod_if hA (fun o => absurd o (notOver_of h1)) (fun _ z => absurd z (by rw [e]; exact nzH h3 (by omega))) fun _ _ => ?_
  rw [e, ofInt_H h1, mod_H (by omega) (by omega) h2 h3]; exact h
-- floor, ceil, trunc, int
theorem r_floor {v : Int} (hA : A.handled = none) (hf : Float64.isFinite x = true) (hv : Flt.toInt Float64.floorOf x = v) (h : Q (.int v s.toks) { s with toks := s.toks + 1 }) : wpAny (model prog w) A (call (.builtin "math.floor") [.float x t]) Q E s :=
  Flt.call_floor_float hA (fun z => absurd z (isNaN_of_fin hf)) (fun z => absurd z (isInf_of_fin hf)) fun _ => hv ▸ h
theorem r_ceil {v : Int} (hA : A.handled = none) (hf : Float64.isFinite x = true) (hv : Flt.toInt Float64.ceilOf x = v) (h : Q (.int v s.toks) { s with toks := s.toks + 1 }) : wpAny (model prog w) A (call (.builtin "math.ceil") [.float x t]) Q E s :=
  Flt.call_ceil_float hA (fun z => absurd z (isNaN_of_fin hf)) (fun z => absurd z (isInf_of_fin hf)) fun _ => hv ▸ h
theorem r_trunc {v : Int} (hA : A.handled = none) (hf : Float64.isFinite x = true) (hv : Flt.toInt Float64.truncOf x = v) (h : Q (.int v s.toks) { s with toks := s.toks + 1 }) : wpAny (model prog w) A (call (.builtin "math.trunc") [.float x t]) Q E s :=
  Flt.call_trunc_float hA (fun z => absurd z (isNaN_of_fin hf)) (fun z => absurd z (isInf_of_fin hf)) fun _ => hv ▸ h
theorem r_int {v : Int} (hA : A.handled = none) (hf : Float64.isFinite x = true) (hv : Flt.toInt Float64.truncOf x = v) (h : Q (.int v s.toks) { s with toks := s.toks + 1 }) : wpAny (model prog w) A (call (.type "int") [.float x t]) Q E s :=
  Flt.call_int_float3 hA (fun z => absurd z (isNaN_of_fin hf)) (fun z => absurd z (isInf_of_fin hf)) fun _ => hv ▸ h
theorem r_floor_H (hA : A.handled = none) (e : x = H k) (h1 : k.natAbs ≤ 2 ^ 53) (h : Q (.int (k / 4) s.toks) { s with toks := s.toks + 1 }) : wpAny (model prog w) A (call (.builtin "math.floor") [.float x t]) Q E s :=
  r_floor hA (by rw [e]; exact fin_H h1) (by rw [e]; exact floor_H h1) h
theorem r_ceil_H (hA : A.handled = none) (e : x = H k) (h1 : k.natAbs ≤ 2 ^ 53) (h : Q (.int (-((-k) / 4)) s.toks) { s with toks := s.toks + 1 }) : wpAny (model prog w) A (call (.builtin "math.ceil") [.float x t]) Q E s :=
  r_ceil hA (by rw [e]; exact fin_H h1) (by rw [e]; exact ceil_H h1) h
theorem r_int_H (hA : A.handled = none) (e : x = H k) (h0 : 0 ≤ k) (h1 : k.natAbs ≤ 2 ^ 53) (h : Q (.int (k / 4) s.toks) { s with toks := s.toks + 1 }) : wpAny (model prog w) A (call (.type "int") [.float x t]) Q E s :=
  r_int hA (by rw [e]; exact fin_H h1) (by rw [e, trunc_H h1, if_neg (by omega)]) h
theorem r_floor_Q {d : Int} (hA : A.handled = none) (h1 : n.natAbs ≤ 2 ^ 62) (h2 : 0 < d) (h3 : d < 2 ^ 20) (h4 : (n / d).natAbs < 2 ^ 34 - 1) (h : Q (.int (n / d) s.toks) { s with toks := s.toks + 1 }) : wpAny (model prog w) A (call (.builtin "math.floor") [.float (Qt n d) t]) Q E s :=
  r_floor hA (fin_frac h2 h1) (floor_frac h2 h3 h1 h4) h
theorem r_trunc_Q {d : Int} (hA : A.handled = none) (h0 : 0 ≤ n) (h1 : n.natAbs ≤ 2 ^ 62) (h2 : 0 < d) (h3 : d < 2 ^ 20) (h4 : (n / d).natAbs < 2 ^ 34 - 1) (h : Q (.int (n / d) s.toks) { s with toks := s.toks + 1 }) : wpAny (model prog w) A (call (.builtin "math.trunc") [.float (Qt n d) t]) Q E s :=
  r_trunc hA (fin_frac h2 h1) (trunc_frac h0 h2 h3 h1 h4) h
theorem r_floor_D (hA : A.handled = none) (h1 : k.natAbs ≤ 2 ^ 53) (h2 : 0 < l) (h3 : l < 2 ^ 20) (h4 : (k / l).natAbs < 2 ^ 34 - 1) (h : Q (.int (k / l) s.toks) { s with toks := s.toks + 1 }) : wpAny (model prog w) A (call (.builtin "math.floor") [.float (Float64.div (H k) (H l)) t]) Q E s :=
  r_floor hA (fin_div h1 (by omega) h2) (floor_div h1 h2 h3 h4) h
theorem r_ceil_D (hA : A.handled = none) (h1 : k.natAbs ≤ 2 ^ 53) (h2 : 0 < l) (h3 : l < 2 ^ 20) (h4 : (-((-k) / l)).natAbs < 2 ^ 34 - 1) (h : Q (.int (-((-k) / l)) s.toks) { s with toks := s.toks + 1 }) : wpAny (model prog w) A (call (.builtin "math.ceil") [.float (Float64.div (H k) (H l)) t]) Q E s :=
  r_ceil hA (fin_div h1 (by omega) h2) (ceil_div h1 h2 h3 h4) h
theorem r_trunc_D (hA : A.handled = none) (h0 : 0 ≤ k) (h1 : k.natAbs ≤ 2 ^ 53) (h2 : 0 < l) (h3 : l < 2 ^ 20) (h4 : (k / l).natAbs < 2 ^ 34 - 1) (h : Q (.int (k / l) s.toks) { s with toks := s.toks + 1 }) : wpAny (model prog w) A (call (.builtin "math.trunc") [.float (Float64.div (H k) (H l)) t]) Q E s :=
  r_trunc hA (fin_div h1 (by omega) h2) (trunc_div h0 h1 h2 h3 h4) h
theorem r_abs (h1 : k.natAbs ≤ 2 ^ 53) (h : Q (.float (H k.natAbs) s.toks) { s with toks := s.toks + 1 }) : wpAny (model prog w) A (call (.builtin "abs") [.float (H k) t]) Q E s :=
  Flt.call_abs_float (by rw [abs_H h1]; exact h)
theorem cmp_le {a b : Int} : (some (compare a b) == some Ordering.lt || some (compare a b) == some Ordering.eq) = decide (a ≤ b) := by
  rcases Int.lt_trichotomy a b with h | h | h
  · rw [Int.compare_eq_lt.mpr h]; simp; omega
  · subst h; simp
  · rw [Int.compare_eq_gt.mpr h]; simp; omega
theorem cmp_lt {a b : Int} : (some (compare a b) == some Ordering.lt) = decide (a < b) := by
  rcases Int.lt_trichotomy a b with h | h | h
  · rw [Int.compare_eq_lt.mpr h]; simp; omega
  · subst h; simp
  · rw [Int.compare_eq_gt.mpr h]; simp; omega
theorem r_le (h1 : k.natAbs ≤ 2 ^ 53) (h : Q (.bool (decide (k ≤ 4 * n))) s) : wpAny (model prog w) A (compareOp .LtE (.float (H k) t) (.int n u)) Q E s :=
  le_fi (by rw [cmpInt_H h1, cmp_le]; exact h)
theorem r_lt (h1 : k.natAbs ≤ 2 ^ 53) (h : Q (.bool (decide (k < 4 * n))) s) : wpAny (model prog w) A (compareOp .Lt (.float (H k) t) (.int n u)) Q E s :=
  lt_fi (by rw [cmpInt_H h1, cmp_lt]; exact h)
end

-- the text's numbers
theorem k_greg : (4700144277945057280 : UInt64) = H 6885702 := by decide +kernel
theorem k_arm : (4701007892789067776 : UInt64) = H 7690006 := by decide +kernel
theorem k_sark : (4701801086275551232 : UInt64) = H 8468842 := by decide +kernel
theorem k_copt : (4700589253736792064 : UInt64) = H 7300118 := by decide +kernel
theorem k_fren : (4702356487823949824 : UInt64) = H 9503358 := by decide +kernel
theorem k_365 : (4645128764097822720 : UInt64) = H (4 * 365) := by decide +kernel
theorem k_1461 : (4654140361399074816 : UInt64) = H (4 * 1461) := by decide +kernel
theorem k_4 : (4616189618054758400 : UInt64) = H 16 := by decide +kernel
theorem k_hebr : (4689722129631936512 : UInt64) = H 1391982 := by decide +kernel
theorem k_isla : (4701119295650791424 : UInt64) = H 7793758 := by decide +kernel
end Mine
namespace Mine
theorem k_half : (4602678819172646912 : UInt64) = H 2 := by decide +kernel
theorem k_36525 : (4645133162144333824 : UInt64) = H 1461 := by decide +kernel
theorem k_15245 : (4654419637352529920 : UInt64) = H 6098 := by decide +kernel
theorem k_295 : (4628996729495093248 : UInt64) = H 118 := by decide +kernel
end Mine
end
section
open PySem PySem.W PyProof.Rows PySem.Calls PySem.SeqAt
namespace Mine
def eqI (x : Int) : Value → Bool
  | .int n _ => n == x
  | _ => false
def isIS : Value → Bool
  | .int _ _ => true
  | .str _ _ => true
  | _ => false
def eqF : Value → Bool
  | .bool b => !b
  | _ => false
def isBo : Value → Bool
  | .bool _ => true
  | _ => false
theorem eqAt_I {A : Around} {s : Shared} {y : Value} {x : Int} {u : Tok} (h : isIS y = true) : EqAt A s y (.int x u) (eqI x y) := by
  intro prog w E Q hq
  cases y with
  | int n t => exact wpAny_eqBool_int hq
  | str z t =>
    unfold eqBool
    refine wpAny_holding ?_
    rw [if_neg (by intro c; have := eq_of_beq c; cases this)]
    dsimp only
    refine wpAny_bind (EqMixed.eq_str_int ?_)
    exact wpAny_truthy_bool hq
  | _ => cases h
theorem eqAt_F {A : Around} {s : Shared} {y : Value} (h : isBo y = true) : EqAt A s y (.bool false) (eqF y) := by
  intro prog w E Q hq
  cases y with
  | bool b =>
    unfold eqBool
    show wpAny _ _ (if (Value.bool b == Value.bool false) = true then _ else _) Q E s
    cases b with
    | false =>
      rw [if_pos (by decide)]
      exact wpAny_bind (wpAny_rule (wpAny_pure hq))
    | true =>
      rw [if_neg (by intro c; have := eq_of_beq c; cases this)]
      refine wpAny_bind (eq_bool (wpAny_truthy_bool ?_))
      exact hq
  | _ => cases h
section
variable {prog : Program} {w : World} {A : Around} {E : Value → Shared → Prop} {s : Shared} {Q : Value → Shared → Prop}
theorem r_in_I {l : Addr} {items : Array Value} {x : Int} {u : Tok} {b : Bool} (hl : IsTup s.heap l items) (hi : items.toList.all isIS = true) (hb : items.toList.any (eqI x) = b) (h : Q (.bool b) s) :
    wpAny (model prog w) A (compareOp .In (.int x u) (.ref l)) Q E s := by
  refine in_tupleAt (eqI x) hl (fun y hy => eqAt_I (List.all_eq_true.mp hi y (by simpa using hy))) ?_
  rw [← Array.any_toList, hb]
  exact h
theorem r_notin_F {l : Addr} {items : Array Value} {b : Bool} (hl : s.heap.IsList l items) (hi : items.toList.all isBo = true) (hb : (!items.toList.any eqF) = b) (h : Q (.bool b) s) :
    wpAny (model prog w) A (compareOp .NotIn (.bool false) (.ref l)) Q E s := by
  refine notIn_listAt eqF hl (fun y hy => eqAt_F (List.all_eq_true.mp hi y (by simpa using hy))) ?_
  rw [← Array.any_toList, hb]
  exact h
end
end Mine
end
section
open PySem PySem.W PyProof.Rows PySem.Calls PySem.Float64 PySem.Flt
namespace Mine
/-! the Julian calendar's numbers that are no quarters: 122.1 and 30.6001 -/
theorem near_sub {x y : UInt64} {a b : Bool} {m k : Nat} {e f : Int} (hx : decode x = .fin a m e) (hy : decode y = .fin b k f) (hv : (val x - val y).natAbs ≤ 2 ^ 1990) : Near (sub x y) (val x - val y) 1 := by
  have h := sub_right hx hy
  by_cases z : val x - val y = 0
  · rw [h.1 z, z]
    have hz : ∀ s, isFinite (zero s) = true ∧ val (zero s) = 0 := by
      intro s; cases s
      · exact ⟨by decide +kernel, by decide +kernel⟩
      · exact ⟨by decide +kernel, by decide +kernel⟩
    refine ⟨(hz _).1, fun v _ => ?_⟩
    rw [(hz _).2]
    omega
  · have g := near_of (h.2 z) (by decide) (by rw [Nat.one_mul]; exact hv)
    have e1 := sgn_dec (val x - val y) 1
    rw [Nat.mul_one] at e1
    rw [e1] at g
    simpa using g
theorem floor_div_val {x : UInt64} (hx : isFinite x = true) {b N : Int} (hb0 : 0 < b) (hb : b < 2 ^ 20) (hv : (val x).natAbs ≤ 2 ^ 53 * P) (hN : N.natAbs < 2 ^ 34 - 1)
    (h1 : b * N * P ≤ val x) (h2 : b * (P : Int) < 2 ^ 20 * (b * (N + 1) * P - val x)) : isFinite (div x (H b)) = true ∧ toInt floorOf (div x (H b)) = N := by
  obtain ⟨a, m, e, hd⟩ := fin_dec hx
  obtain ⟨n, f, hg, hw⟩ := H_spec (k := b) (by omega)
  have hk : n ≠ 0 := by
    intro z
    have := val_natAbs hg
    rw [z, hw, natAbs_mulP, Nat.zero_mul] at this
    have := Nat.mul_pos (show 0 < b.natAbs by omega) P_pos
    omega
  have hr := div_right hd hg hk
  have e1 : (a != decide (b < 0)) = a := by
    have : ¬ b < 0 := by omega
    simp [this]
  rw [e1, hw, natAbs_mulP] at hr
  have g := near_of hr (Nat.mul_pos (by omega) P_pos) (by
    have h1 : (val x).natAbs * 2 ^ 1074 ≤ 2 ^ 53 * P * 2 ^ 1074 := Nat.mul_le_mul_right _ hv
    have h2 : 2 ^ 53 * P * 2 ^ 1074 = P * 2 ^ 1127 := by rw [Nat.mul_comm (2 ^ 53), Nat.mul_assoc, ← Nat.pow_add]
    have h3 : P * 2 ^ 1127 ≤ b.natAbs * P * 2 ^ 1990 := Nat.mul_le_mul (Nat.le_mul_of_pos_left _ (by omega)) (Nat.pow_le_pow_right (by decide) (by decide))
    omega)
  have es : sgn a ((val x).natAbs * 2 ^ 1074) = val x * (4 * (P : Int)) := by
    rw [M_eq, sgn_mul, Int.natCast_mul]
    congr 1
    rw [val_natAbs hd, val_eq hd]
  rw [es] at g
  have e2 : ((b.natAbs * P : Nat) : Int) = b * (P : Int) := by rw [Int.natCast_mul]; congr 1; omega
  have hp := PI_pos
  have hD : 0 < b.natAbs * P := Nat.mul_pos (by omega) P_pos
  refine ⟨g.fin, g.floor hD hN ?_ ?_⟩
  · rw [e2]
    have : b * (P : Int) * (N * (4 * P)) = b * N * P * (4 * P) := by generalize (P : Int) = q; ac_rfl
    rw [this]
    exact Int.mul_le_mul_of_nonneg_right h1 (by omega)
  · rw [e2]
    have : b * (P : Int) * ((N + 1) * (4 * P)) = b * (N + 1) * P * (4 * P) := by generalize (P : Int) = q; ac_rfl
    rw [this, ← Int.sub_mul, ← Int.mul_assoc (2 ^ 20)]
    exact Int.mul_lt_mul_of_pos_right h2 (by omega)
theorem sgn_false (n c : Nat) : sgn false (n * 2 ^ c) = (n : Int) * 2 ^ c := by unfold sgn; simp
theorem P_cast : (P : Int) = (2 : Int) ^ 1072 := by unfold P; exact Int.natCast_pow 2 1072
theorem dec_1221 : decode 4638292440600962662 = .fin false 8592023664092774 (-46) := by
  have h : (match decode 4638292440600962662 with | .fin a m e => a == false && m == 8592023664092774 && e == -46 | _ => false) = true := by decide +kernel
  revert h
  cases decode 4638292440600962662 with
  | nan => intro h; cases h
  | inf a => intro h; cases h
  | fin a m e => intro h; simp at h; obtain ⟨⟨h1, h2⟩, h3⟩ := h; rw [h1, h2, h3]
theorem jul_c {n : Int} (hn : n.natAbs ≤ 2 ^ 38) : isFinite (div (sub (ofInt n) 4638292440600962662) (H 1461)) = true ∧ toInt floorOf (div (sub (ofInt n) 4638292440600962662) (H 1461)) = (4 * n - 489) / 1461 := by
  rw [ofInt_H (by omega)]
  obtain ⟨m, e, hd, hv⟩ := H_spec (k := 4 * n) (by omega)
  have hw : val 4638292440600962662 = 8592023664092774 * 2 ^ 1028 := by rw [val_eq dec_1221, sgn_false, show ((-46 : Int) + 1074).toNat = 1028 from rfl, show ((8592023664092774 : Nat) : Int) = 8592023664092774 from rfl]
  have eP : (P : Int) = 2 ^ 44 * 2 ^ 1028 := by rw [P_cast, ← Int.pow_add]
  have eP2 : (P : Int) = 4 * 2 ^ 1070 := by rw [P_cast, show (1072 : Nat) = 2 + 1070 from rfl, Int.pow_add, show (2 : Int) ^ 2 = 4 from by decide]
  have hq : (0 : Int) < 2 ^ 1028 := Int.pow_pos (by decide)
  have hr0 : (0 : Int) < 2 ^ 1070 := Int.pow_pos (by decide)
  have hPl : (P : Int) * 2 ^ 40 ≤ 2 ^ 1990 := by
    unfold P
    rw [Int.natCast_pow, show ((2 : Nat) : Int) = 2 from rfl, ← Int.pow_add]
    exact_mod_cast Nat.pow_le_pow_right (n := 2) (by decide) (by decide)
  have hx : val (H (4 * n)) - val 4638292440600962662 = 4 * n * P - 8592023664092774 * 2 ^ 1028 := by rw [hv, hw]
  have hsz : (val (H (4 * n)) - val 4638292440600962662).natAbs ≤ 2 ^ 1990 := by
    have : (((2 ^ 1990 : Nat)) : Int) = (2 : Int) ^ 1990 := by rw [Int.natCast_pow]; rfl
    rw [hx]
    have h3 : ((4 * n * P - 8592023664092774 * 2 ^ 1028 : Int).natAbs : Int) ≤ 2 ^ 1990 := by
      generalize (2 : Int) ^ 1990 = B at *
      generalize (2 : Int) ^ 1028 = q at *
      rw [eP] at hPl ⊢
      rw [show 4 * n * (2 ^ 44 * q) = 2 ^ 46 * (n * q) by rw [Int.mul_assoc, Int.mul_left_comm n]; omega]
      have a1 : n * q ≤ 2 ^ 38 * q := Int.mul_le_mul_of_nonneg_right (by omega) (by omega)
      have a2 : -(2 ^ 38) * q ≤ n * q := Int.mul_le_mul_of_nonneg_right (by omega) (by omega)
      generalize n * q = z at *
      omega
    omega
  have g := near_sub hd dec_1221 hsz
  rw [hx] at g
  clear hsz hPl
  have lo : (4 * n - 489) * (P : Int) ≤ val (sub (H (4 * n)) 4638292440600962662) := by
    refine g.ge (by decide) ?_ ?_
    · have := rep_int (n := 4 * n - 489) 1072 (by omega) (by omega) (by omega)
      unfold P; rw [Int.natCast_pow]; exact this
    · rw [Int.sub_mul, eP]
      generalize (2 : Int) ^ 1028 = q at *
      generalize 4 * n * (2 ^ 44 * q) = z at *
      omega
  have hi : val (sub (H (4 * n)) 4638292440600962662) ≤ (16 * n - 1953) * 2 ^ 1070 := by
    refine g.le (by decide) (rep_int (n := 16 * n - 1953) 1070 (by omega) (by omega) (by omega)) ?_
    have e3 : (2 : Int) ^ 1070 = 2 ^ 42 * 2 ^ 1028 := by rw [← Int.pow_add]
    rw [eP2, e3, Int.sub_mul]
    generalize (2 : Int) ^ 1028 = q at *
    rw [show 4 * n * (4 * (2 ^ 42 * q)) = 16 * n * (2 ^ 42 * q) by rw [← Int.mul_assoc]; congr 1; omega]
    generalize 16 * n * (2 ^ 42 * q) = z at *
    omega
  have hsz2 : (val (sub (H (4 * n)) 4638292440600962662)).natAbs ≤ 2 ^ 53 * P := by
    generalize val (sub (H (4 * n)) 4638292440600962662) = v at *
    have : ((v.natAbs : Nat) : Int) ≤ 2 ^ 53 * (P : Int) := by
      rw [Int.sub_mul] at lo hi
      rw [eP2] at lo ⊢
      generalize (2 : Int) ^ 1070 = q at *
      have a1 : 16 * n * q ≤ 2 ^ 42 * q := Int.mul_le_mul_of_nonneg_right (by omega) (by omega)
      have a2 : -(2 ^ 42) * q ≤ 16 * n * q := Int.mul_le_mul_of_nonneg_right (by omega) (by omega)
      rw [show 4 * n * (4 * q) = 16 * n * q by rw [← Int.mul_assoc]; congr 1; omega] at lo
      generalize 16 * n * q = z at *
      omega
    omega
  refine floor_div_val g.fin (by decide) (by decide) hsz2 (by omega) ?_ ?_
  · refine Int.le_trans (Int.mul_le_mul_of_nonneg_right ?_ (by have := PI_pos; omega)) lo
    omega
  · have h5 : (4 * n - 488) * (P : Int) ≤ 1461 * ((4 * n - 489) / 1461 + 1) * P := Int.mul_le_mul_of_nonneg_right (by omega) (by have := PI_pos; omega)
    generalize 1461 * ((4 * n - 489) / 1461 + 1) * (P : Int) = A at *
    generalize val (sub (H (4 * n)) 4638292440600962662) = v at *
    rw [Int.sub_mul] at hi h5
    rw [eP2] at h5 ⊢
    generalize (2 : Int) ^ 1070 = q at *
    rw [show 4 * n * (4 * q) = 16 * n * q by rw [← Int.mul_assoc]; congr 1; omega] at h5
    generalize 16 * n * q = z at *
    omega
def jeOk (i : Nat) : Bool := isFinite (div (ofInt (i + 123)) 4629306380116972641) && toInt floorOf (div (ofInt (i + 123)) 4629306380116972641) == 10000 * (i + 123) / 306001
theorem jul_e' : (List.range 366).all jeOk = true := by decide +kernel
theorem jul_e {n : Int} (hn : 123 ≤ n ∧ n ≤ 488) : isFinite (div (ofInt n) 4629306380116972641) = true ∧ toInt floorOf (div (ofInt n) 4629306380116972641) = 10000 * n / 306001 := by
  have h := List.all_eq_true.mp jul_e' (n.toNat - 123) (List.mem_range.mpr (by omega))
  unfold jeOk at h
  rw [show ((((n.toNat - 123 : Nat)) : Int) + 123) = n by omega] at h
  simpa using h
def jdOk (i : Nat) : Bool := isFinite (mul 4629306380116972641 (ofInt i)) && toInt floorOf (mul 4629306380116972641 (ofInt i)) == 306001 * i / 10000
theorem jul_d' : (List.range 20).all jdOk = true := by decide +kernel
theorem jul_d {n : Int} (hn : 0 ≤ n ∧ n ≤ 19) : isFinite (mul 4629306380116972641 (ofInt n)) = true ∧ toInt floorOf (mul 4629306380116972641 (ofInt n)) = 306001 * n / 10000 := by
  have h := List.all_eq_true.mp jul_d' n.toNat (List.mem_range.mpr (by omega))
  unfold jdOk at h
  rw [show ((n.toNat : Nat) : Int) = n by omega] at h
  simpa using h
section
variable {prog : Program} {w : World} {A : Around} {E : Value → Shared → Prop} {s : Shared} {t u : Tok} {Q : Value → Shared → Prop} {x y : UInt64} {k l n : Int}
theorem r_sub_J (e : x = 4638292440600962662) (h2 : n.natAbs ≤ 2 ^ 51) (h : Q (.float (Float64.sub (Float64.ofInt n) 4638292440600962662) s.toks) { s with toks := s.toks + 1 }) :
    wpAny (model prog w) A (binaryOp .Sub (.int n u) (.float x t)) Q E s := by
  refine sub_if_fits (fits_of h2) ?_
  rw [e]; exact h
theorem r_div_J (hA : A.handled = none) (f : y = H 1461) (h : Q (.float (Float64.div (Float64.sub (Float64.ofInt n) 4638292440600962662) (H 1461)) s.toks) { s with toks := s.toks + 1 }) :
    wpAny (model prog w) A (binaryOp .Div (.float (Float64.sub (Float64.ofInt n) 4638292440600962662) t) (.float y u)) Q E s := by
  refine truediv_float_or hA (fun z => absurd z (by rw [f]; exact nzH (by decide) (by decide))) fun _ => ?_
  rw [f]; exact h
theorem r_floor_Jc (hA : A.handled = none) (hn : n.natAbs ≤ 2 ^ 38) (h : Q (.int ((4 * n - 489) / 1461) s.toks) { s with toks := s.toks + 1 }) :
    wpAny (model prog w) A (call (.builtin "math.floor") [.float (Float64.div (Float64.sub (Float64.ofInt n) 4638292440600962662) (H 1461)) t]) Q E s := r_floor hA (jul_c hn).1 (jul_c hn).2 h
theorem r_div_Je (hA : A.handled = none) (e : x = 4629306380116972641) (h1 : n.natAbs ≤ 2 ^ 51) (h : Q (.float (Float64.div (Float64.ofInt n) 4629306380116972641) s.toks) { s with toks := s.toks + 1 }) :
    wpAny (model prog w) A (binaryOp .Div (.int n t) (.float x u)) Q E s := by
  refine Flt.truediv_if hA (fun o => absurd o (notOver_of h1)) (fun _ z => absurd z (by rw [e]; decide +kernel)) fun _ _ => ?_
  rw [e]; exact h
theorem r_floor_Je (hA : A.handled = none) (hn : 123 ≤ n ∧ n ≤ 488) (h : Q (.int (10000 * n / 306001) s.toks) { s with toks := s.toks + 1 }) :
    wpAny (model prog w) A (call (.builtin "math.floor") [.float (Float64.div (Float64.ofInt n) 4629306380116972641) t]) Q E s := r_floor hA (jul_e hn).1 (jul_e hn).2 h
theorem r_mul_Jd (e : x = 4629306380116972641) (h2 : n.natAbs ≤ 2 ^ 51) (h : Q (.float (Float64.mul 4629306380116972641 (Float64.ofInt n)) s.toks) { s with toks := s.toks + 1 }) :
    wpAny (model prog w) A (binaryOp .Mult (.float x t) (.int n u)) Q E s := by
  refine mul_fi_fits (fits_of h2) ?_
  rw [e]; exact h
theorem r_floor_Jd (hA : A.handled = none) (hn : 0 ≤ n ∧ n ≤ 19) (h : Q (.int (306001 * n / 10000) s.toks) { s with toks := s.toks + 1 }) :
    wpAny (model prog w) A (call (.builtin "math.floor") [.float (Float64.mul 4629306380116972641 (Float64.ofInt n)) t]) Q E s := r_floor hA (jul_d hn).1 (jul_d hn).2 h
end
end Mine
end
section
open PySem PySem.W PyProof.Rows PySem.Calls PyProof.Rows.LCg
namespace Mine
/-- the nine steps of the new years' list: what each tuple must keep -/
inductive Steps (yr : Int) (news : List (Addr × Obj)) : List Value → Prop
  | nil : Steps yr news []
  | cons {T : Addr} {k c cd mo : Int} {t t1 t2 t3 : Tok} {vs : List Value} :
      (T, ({ cls := .type "tuple", data := .seq #[.float (H k) t, .int c t1, .int cd t2, .int mo t3] } : Obj)) ∈ news →
      (-3000000000000 ≤ k ∧ k ≤ 3000000000000) → (0 < c ∧ c ≤ 400) → (0 < cd ∧ cd ≤ 146097) → (0 ≤ mo ∧ mo ≤ 879) → (c * k - 4 * (cd * yr)).natAbs ≤ 4 * mo → Steps yr news vs → Steps yr news (.ref T :: vs)
theorem Steps.at {yr : Int} {news : List (Addr × Obj)} : ∀ {vs : List Value} (_ : Steps yr news vs) {i : Nat} {v : Value}, vs[i]? = some v →
    ∃ (T : Addr) (k c cd mo : Int) (t t1 t2 t3 : Tok), v = .ref T ∧ (T, ({ cls := .type "tuple", data := .seq #[.float (H k) t, .int c t1, .int cd t2, .int mo t3] } : Obj)) ∈ news ∧
      (-3000000000000 ≤ k ∧ k ≤ 3000000000000) ∧ (0 < c ∧ c ≤ 400) ∧ (0 < cd ∧ cd ≤ 146097) ∧ (0 ≤ mo ∧ mo ≤ 879) ∧ (c * k - 4 * (cd * yr)).natAbs ≤ 4 * mo
  | _, .nil, _, _, h => by simp at h
  | _, .cons a b c d e f r, i, v, h => by
    cases i with
    | zero =>
      simp at h
      subst h
      exact ⟨_, _, _, _, _, _, _, _, _, rfl, a, b, c, d, e, f⟩
    | succ i => exact r.at (by simpa using h)
/-- marks the law's number of years -/
def YearsAre (_yr : Int) : Prop := True
def End4 (h₀ : Heap) (L : Addr) (m : Str → Option Value) (s : Shared) (all : List (Addr × Obj)) (y : Value) (s' : Shared) : Prop :=
  y = .bool true ∧ ∃ h tk, s' = { s with heap := h, toks := tk } ∧ Fr h₀ L h m ∧ News h₀ L h all
theorem End4.intro {h₀ h : Heap} {L : Addr} {m : Str → Option Value} {s : Shared} {all : List (Addr × Obj)} {tk : Nat} (F : Fr h₀ L h m) (N : News h₀ L h all) : End4 h₀ L m s all (.bool true) { s with heap := h, toks := tk } := ⟨rfl, h, tk, rfl, F, N⟩
section
variable {prog : Program} {w : World} {A : Around} {E : Value → Shared → Prop} {s : Shared} {h₀ : Heap} {L : Addr} {m : Str → Option Value} {env : Env}
theorem ListComp_4 {elt iter : Expr} {x1 x2 x3 x4 : Str} {p1 p2 p3 p4 tp : Pos} {tk0 : Nat} {scope : Scope} {cl : List (Str × Addr)} {pos : Pos} {Q : Value → Shared → Prop} {ax : Addr} {its : List Value} {kk : Nat} {yr : Int} {news : List (Addr × Obj)}
    (_hyr : YearsAre yr) (F : Fr h₀ L s.heap m) (N : News h₀ L s.heap news) (hh : A.handled = none)
    (hclos : closureFor scope env = pure cl) (hcell : ∀ y ∈ scope.names, y.2 ≠ .cell) (hkind : scope.kind = .function)
    (hnames : ∀ y ∈ scope.names, y.2 = .local → scope.names.lookup y.1 = some .local)
    (hx1 : scope.names.lookup x1 = some .local) (hx2 : scope.names.lookup x2 = some .local) (hx3 : scope.names.lookup x3 = some .local) (hx4 : scope.names.lookup x4 = some .local)
    (d12 : x1 ≠ x2) (d13 : x1 ≠ x3) (d14 : x1 ≠ x4) (d23 : x2 ≠ x3) (d24 : x2 ≠ x4) (d34 : x3 ≠ x4)
    (hm : (ax, ({ cls := .type "list", data := .seq its.toArray kk } : Obj)) ∈ news) (hsz : its.length ≤ sizeLine) (hst : Steps yr news its)
    (hit : ∀ Q' : Value → Shared → Prop, Q' (.ref ax) s → wpAny (model prog w) A (eval iter env) Q' E s)
    (hel : ∀ (k c cd mo : Int) (t t1 t2 t3 : Tok) (I C D : Addr) (oI oC : Obj) (ys : List Value) (m₂ : Str → Option Value) (h : Heap) (tk : Nat) (E' : Value → Shared → Prop),
      (-3000000000000 ≤ k ∧ k ≤ 3000000000000) → (0 < c ∧ c ≤ 400) → (0 < cd ∧ cd ≤ 146097) → (0 ≤ mo ∧ mo ≤ 879) → (c * k - 4 * (cd * yr)).natAbs ≤ 4 * mo →
      NsObj oC m₂ → m₂ x1 = some (.float (H k) t) → m₂ x2 = some (.int c t1) → m₂ x3 = some (.int cd t2) → m₂ x4 = some (.int mo t3) → Fr h₀ L h m → News h₀ L h ((I, oI) :: (C, oC) :: (D, lst ys) :: news) →
      wpAny (model prog w) A (eval elt (compEnvC scope cl C env)) (End4 h₀ L m s ((I, oI) :: (C, oC) :: (D, lst ys) :: news)) E' { s with heap := h, toks := tk })
    (hQ : ∀ D h tk, Fr h₀ L h m → News h₀ L h ((D, lst (List.replicate its.length (.bool true))) :: news) → Q (.ref D) { s with heap := h, toks := tk })
    (hs : ∀ x, foldedSetIterable iter env x = pure x := by intro _; rfl) :
    wpAny (model prog w) A (eval (.ListComp elt [⟨.Tuple [.Name x1 p1, .Name x2 p2, .Name x3 p3, .Name x4 p4] tk0 tp, iter, [], 0⟩] scope pos) env) Q E s := by
  rw [eval_ListComp]
  refine wpAny_comprehension_free (use := none) rfl hs hclos hkind hnames (hit _ ?_)
  have hl : s.heap.IsList ax its.toArray := ⟨_, (N _ hm).1, rfl, kk, rfl⟩
  have hax : @LT.lt Nat _ ax s.heap.objs.size := Heap.lt_size (N _ hm).1
  refine wpAny_pyIter_list hl ?_
  generalize hH1 : s.heap.push { cls := .type "list_iterator", dict := none, data := .fields #[.ref ax, .int 0 0] } = H1
  have z1 : H1.objs.size = s.heap.objs.size + 1 := by rw [← hH1, Heap.size_push]
  have g1 : ∀ b o, s.heap.get? b = some o → H1.get? b = some o := fun b o e => hH1 ▸ Heap.get?_push_of_some _ e
  have gI : H1.get? s.heap.objs.size = some { cls := .type "list_iterator", data := .fields #[.ref ax, .int 0 0] } := hH1 ▸ Heap.get?_push_size _ rfl
  refine wpAny_newObj_type (wpAny_newFunctionEnv hcell (by intro y hy; simp at hy) (fun h₁ hns₁ hsb₁ => ?_) hkind)
  dsimp only at hns₁ hsb₁ ⊢
  generalize hH2 : H1.push { cls := .type "list", dict := none, data := .seq ([] : List Value).toArray } = H2 at hns₁ hsb₁ ⊢
  have z2 : H2.objs.size = s.heap.objs.size + 2 := by rw [← hH2, Heap.size_push, z1]
  have g2 : ∀ b o, H1.get? b = some o → H2.get? b = some o := fun b o e => hH2 ▸ Heap.get?_push_of_some _ e
  have gD : H2.get? H1.objs.size = some (lst []) := hH2 ▸ Heap.get?_push_size _ rfl
  have g3 : ∀ b o, H2.get? b = some o → h₁.get? b = some o := fun b o e => hsb₁.extBut b o (Nat.ne_of_lt (Heap.lt_size e)) (Heap.get?_push_of_some _ e)
  have gs : ∀ b o, s.heap.get? b = some o → h₁.get? b = some o := fun b o e => g3 b o (g2 b o (g1 b o e))
  have none₀ : ∀ b, s.heap.objs.size ≤ b → h₀.get? b = none := fun b hb => by
    cases e : h₀.get? b with
    | none => rfl
    | some o => exact absurd (Heap.lt_size (F.keep b o e)) (Nat.not_lt.mpr hb)
  have hL : @LT.lt Nat _ L s.heap.objs.size := F.ns.lt
  have hnews : ∀ p ∈ news, @LT.lt Nat _ p.1 s.heap.objs.size := fun p hp => Heap.lt_size (N p hp).1
  generalize hI : s.heap.objs.size = I at *
  generalize hD : H1.objs.size = D at *
  generalize hC : H2.objs.size = C at *
  have nID : I ≠ D := neN (by omega)
  have nIC : I ≠ C := neN (by omega)
  have nDC : D ≠ C := neN (by omega)
  have nLI : L ≠ I := neN (by omega)
  have nLD : L ≠ D := neN (by omega)
  have nLC : L ≠ C := neN (by omega)
  have offI : ∀ p ∈ news, p.1 ≠ I := fun p hp => neN (by have := hnews p hp; omega)
  have offD : ∀ p ∈ news, p.1 ≠ D := fun p hp => neN (by have := hnews p hp; omega)
  have offC : ∀ p ∈ news, p.1 ≠ C := fun p hp => neN (by have := hnews p hp; omega)
  have h0I := none₀ I (by omega)
  have h0D := none₀ D (by omega)
  have h0C := none₀ C (by omega)
  have hit1 : h₁.IsListIter I ax 0 := ⟨_, g3 _ _ (g2 _ _ gI), rfl, rfl⟩
  have F1 : Fr h₀ L h₁ m := F.keeps gs
  have W := Walks.list (prog := prog) (w := w) (A := A) hh I ax (neN (by omega)) its.toArray
  have start : ∀ s₃ : Shared, s₃ = { s with heap := h₁, toks := s.toks + ([] : List (Str × Value)).length } →
      codeAny (model prog w) A (.compLoop (.ListComp elt [⟨.Tuple [.Name x1 p1, .Name x2 p2, .Name x3 p3, .Name x4 p4] tk0 tp, iter, [], 0⟩] scope pos) 0 (.ref I) (.ref D) (compEnvC scope cl C env)) (compPost (model prog w) A E none Q (.ref D) C) s₃ := by
    rintro s₃ rfl
    refine LCp.codeAny_compLoop_pair (fun n s' => ∃ h tk i m', s' = { s with heap := h, toks := tk } ∧ i ≤ its.length ∧ n = its.length + 1 - i ∧ (h.IsListIter I ax i ∧ h.IsList ax its.toArray) ∧ Fr h₀ L h m ∧ h.Ns C m' ∧
      News h₀ L h ((D, lst (List.replicate i (.bool true))) :: news)) ?_ (its.length + 1) ⟨h₁, _, 0, _, rfl, Nat.zero_le _, rfl, ⟨hit1, ⟨_, gs _ _ (N _ hm).1, rfl, kk, rfl⟩⟩, F1, hns₁, ?_⟩
    · rintro n s' ⟨h, tk, i, m', rfl, hi, rfl, st, F', hn', N'⟩
      by_cases hlt : i < its.length
      · refine W.item i _ _ _ (by simpa using hlt) st fun v h₂ tk₂ hv st₂ hk₂ => ?_
        obtain ⟨T, k, c, cd, mo, t, t1, t2, t3, rfl, hT, b1, b2, b3, b4, b5⟩ := hst.at (i := i) (v := v) (by simpa using hv)
        have N₂ := news_but N' hk₂ (by
          intro p hp
          rcases List.mem_cons.mp hp with rfl | hp
          · exact Ne.symm nID
          · exact offI p hp)
        have F₂ := fr_but F' hk₂ nLI h0I
        have hT₂ : IsTup h₂ T #[.float (H k) t, .int c t1, .int cd t2, .int mo t3] := ⟨_, (N₂ _ (List.mem_cons_of_mem _ hT)).1, rfl, _, rfl⟩
        refine wpAny_letOwnedTupleGo_listiter st₂.1 ?_
        refine assign_Tuple_tuple hh hT₂ rfl rfl fun h₅ he => ?_
        have up5 : ∀ b o, h₂.get? b = some o → h₅.get? b = some o := fun b o e => he b o (Nat.ne_of_lt (Heap.lt_size e)) e
        have n5 : h₅.Ns C m' := (hn'.at' fun o e => hk₂ _ o (by simpa using Ne.symm nIC) e).at' fun o e => up5 _ o e
        have np : ((compEnvC scope cl C env).scope.kind == .class || ((compEnvC scope cl C env).scope.kind == .module && (compEnvC scope cl C env).locals != (compEnvC scope cl C env).globals)) = false := by simp [compEnvC, relabel, hkind]
        refine assignInOrder_cons (wpAny_assign_Name (wpAny_storeName_local (lookup_relabel_local hx1) n5 (fun a₁ na₁ sa₁ => ?_) np))
        refine assignInOrder_cons (wpAny_assign_Name (wpAny_storeName_local (lookup_relabel_local hx2) na₁ (fun a₂ na₂ sa₂ => ?_) np))
        refine assignInOrder_cons (wpAny_assign_Name (wpAny_storeName_local (lookup_relabel_local hx3) na₂ (fun a₃ na₃ sa₃ => ?_) np))
        refine assignInOrder_cons (wpAny_assign_Name (wpAny_storeName_local (lookup_relabel_local hx4) na₃ (fun a₄ na₄ sa₄ => ?_) np))
        refine assignInOrder_nil ?_
        have up : ∀ b o, b ≠ C → h₂.get? b = some o → a₄.get? b = some o := fun b o hb e => sa₄.extBut b o hb (sa₃.extBut b o hb (sa₂.extBut b o hb (sa₁.extBut b o hb (up5 b o e))))
        have F₄ : Fr h₀ L a₄ m := ((((F₂.keeps up5).change sa₁ (Ne.symm nLC) h0C).change sa₂ (Ne.symm nLC) h0C).change sa₃ (Ne.symm nLC) h0C).change sa₄ (Ne.symm nLC) h0C
        obtain ⟨oI, eI, fI⟩ := st₂.1
        have eI4 : a₄.get? I = some oI := up _ _ nIC eI
        obtain ⟨oC, eC, fC⟩ := ns_obj na₄
        have N₄ : News h₀ L a₄ ((I, oI) :: (C, oC) :: (D, lst (List.replicate i (.bool true))) :: news) := fun p hp => by
          rcases List.mem_cons.mp hp with rfl | hp
          · exact ⟨eI4, Ne.symm nLI, h0I⟩
          · rcases List.mem_cons.mp hp with rfl | hp
            · exact ⟨eC, Ne.symm nLC, h0C⟩
            · refine ⟨up _ _ ?_ (N₂ p hp).1, (N₂ p hp).2⟩
              rcases List.mem_cons.mp hp with rfl | hp
              · exact nDC
              · exact offC p hp
        refine wpAny_mono (hel k c cd mo t t1 t2 t3 I C D oI oC _ _ a₄ _ _ b1 b2 b3 b4 b5 fC (by simp [d12, d13, d14]) (by simp [d23, d24]) (by simp [d34]) (by simp) F₄ N₄) (fun y s₅ h₅ => ?_) fun _ _ e => e
        obtain ⟨rfl, h₆, tk₆, rfl, F₆, N₆⟩ := h₅
        have zI := (N₆ (I, oI) List.mem_cons_self).1
        have zC := (N₆ (C, oC) (List.mem_cons_of_mem _ List.mem_cons_self)).1
        have zD := (N₆ (D, lst (List.replicate i (.bool true))) (List.mem_cons_of_mem _ (List.mem_cons_of_mem _ List.mem_cons_self))).1
        have N₆' : News h₀ L h₆ news := fun p hp => N₆ p (List.mem_cons_of_mem _ (List.mem_cons_of_mem _ (List.mem_cons_of_mem _ hp)))
        refine append_at (hsz := by show (List.replicate i (Value.bool true)).toArray.size ≤ sizeLine; rw [List.size_toArray, List.length_replicate]; exact Nat.le_trans hi hsz) zD fun h₇ sb₇ e₇ => ?_
        refine ⟨its.length + 1 - (i + 1), by omega, h₇, tk₆, i + 1, _, rfl, hlt, rfl, ⟨⟨oI, sb₇.extBut _ _ nID zI, fI⟩, ⟨_, sb₇.extBut _ _ (offD _ hm) (N₆' _ hm).1, rfl, kk, rfl⟩⟩, F₆.change sb₇ (Ne.symm nLD) h0D, (fC.ns zC).sameBut sb₇ (Ne.symm nDC), fun p hp => ?_⟩
        rcases List.mem_cons.mp hp with rfl | hp
        · refine ⟨?_, Ne.symm nLD, h0D⟩
          rw [e₇]
          exact congrArg some ((lst_snoc _ _).trans (by rw [← List.replicate_succ']))
        · exact ⟨sb₇.extBut _ _ (offD p hp) (N₆' p hp).1, (N₆' p hp).2⟩
      · have hin : i = its.length := by omega
        subst hin
        refine W.done _ _ _ (by simpa using st) fun h₂ tk₂ hk₂ => ?_
        have F₂ := fr_but F' hk₂ nLI h0I
        have n₂ : h₂.Ns C m' := hn'.at' fun o e => hk₂ _ o (by simpa using Ne.symm nIC) e
        have N₂ := news_but N' hk₂ (by
          intro p hp
          rcases List.mem_cons.mp hp with rfl | hp
          · exact Ne.symm nID
          · exact offI p hp)
        refine ⟨m', n₂, fun h'' sb => hQ D h'' tk₂ (F₂.change sb (Ne.symm nLC) h0C) fun p hp => ⟨sb.extBut _ _ ?_ (N₂ p hp).1, (N₂ p hp).2⟩⟩
        rcases List.mem_cons.mp hp with rfl | hp
        · exact nDC
        · exact offC p hp
    · intro p hp
      rcases List.mem_cons.mp hp with rfl | hp
      · exact ⟨g3 _ _ gD, Ne.symm nLD, h0D⟩
      · exact ⟨gs _ _ (N p hp).1, (N p hp).2⟩
  exact codeAny_compStart_list (start _ rfl) (wpAny_pyIter_listiter hit1 (start _ rfl))
end
end Mine
end
section
open PySem PySem.W PyProof.Rows PySem.Calls
set_option Elab.async false
set_option maxRecDepth 100000
namespace Mine
/-- what a call of one of the text's defs is worth, wherever it stands -/
def Ctr (D : Nat) (w : World) (p : Program) (loose : List Str) (mean : ExcName → Option Value) (mg mb : Str → Option Value) (f : Addr) (vs : List Value) (R : Tok → Value) : Prop :=
  ∀ (dp un : Nat) (gd : Option (List Code)) (cn : Str) (cs : Scope) (a : Addr) (ccd : Value) (cl : List (Str × Addr)) (outer : List Env) (A₀ : Around) (base h₀ : Heap) (L : Addr) (m : Str → Option Value) (news : List (Addr × Obj)) (s : Shared) (Q E : Value → Shared → Prop),
    Below A₀ base outer h₀ → Fr h₀ L s.heap m → (hd.heap_39 w.params).In h₀ → News h₀ L s.heap news → Top p loose mean mg mb h₀ → cs.kind = .function → dp + D < recursionLimit → un + 8 * D < cLine →
    (∀ (t : Tok) (h' : Heap) (tk' : Nat), Fr h₀ L h' m → News h₀ L h' news → Q (R t) { s with heap := h', toks := tk' }) →
    wpAny (model PySem.Challenge.rw_ad5036_01.row.prog w) (ktrTop dp un gd cn cs L a ccd cl outer) (call (.ref f) vs) Q E s
theorem room1 {dp D d : Nat} (h : dp + D < recursionLimit) (he : 1 + d ≤ D) : dp + 1 + d < recursionLimit := by omega
theorem unit1 {un D d : Nat} (h : un + 8 * D < cLine) (he : 3 + 8 * d ≤ 8 * D) : un + 3 + 8 * d < cLine := by omega
section
variable {h₀ h' : Heap} {L : Addr} {m : Str → Option Value} {news : List (Addr × Obj)} {s : Shared} {Q : Value → Shared → Prop} {t : Tok} {tk' : Nat}
theorem ret_I {x y : Int} (hret : ∀ (t : Tok) (h' : Heap) (tk' : Nat), Fr h₀ L h' m → News h₀ L h' news → Q (.int x t) { s with heap := h', toks := tk' }) (e : y = x) (F : Fr h₀ L h' m) (N : News h₀ L h' news) : Q (.int y t) { s with heap := h', toks := tk' } := e ▸ hret t h' tk' F N
theorem ret_B {x y : Bool} (hret : ∀ (t : Tok) (h' : Heap) (tk' : Nat), Fr h₀ L h' m → News h₀ L h' news → Q (.bool x) { s with heap := h', toks := tk' }) (e : y = x) (F : Fr h₀ L h' m) (N : News h₀ L h' news) : Q (.bool y) { s with heap := h', toks := tk' } := e ▸ hret 0 h' tk' F N
theorem ret_F {x y : Int} (hret : ∀ (t : Tok) (h' : Heap) (tk' : Nat), Fr h₀ L h' m → News h₀ L h' news → Q (.float (H x) t) { s with heap := h', toks := tk' }) (e : y = x) (F : Fr h₀ L h' m) (N : News h₀ L h' news) : Q (.float (H y) t) { s with heap := h', toks := tk' } := e ▸ hret t h' tk' F N
end
section
variable {w : World} {p : Program} {loose : List Str} {mean : ExcName → Option Value} {mg mb : Str → Option Value}
theorem use {D : Nat} {f : Addr} {vs : List Value} {R : Tok → Value} {dp un : Nat} {gd : Option (List Code)} {cn : Str} {cs : Scope} {a : Addr} {ccd : Value} {cl : List (Str × Addr)} {outer : List Env} {A₀ : Around} {base h₀ : Heap} {L : Addr} {m : Str → Option Value} {news : List (Addr × Obj)} {s : Shared} {Q E : Value → Shared → Prop}
    (C : Ctr D w p loose mean mg mb f vs R) (B : Below A₀ base outer h₀) (F : Fr h₀ L s.heap m) (X : (hd.heap_39 w.params).In h₀) (N : News h₀ L s.heap news) (T : Top p loose mean mg mb h₀) (hk : cs.kind = .function) (hd : dp + D < recursionLimit) (hu : un + 8 * D < cLine)
    (ret : ∀ (t : Tok) (h' : Heap) (tk' : Nat), Fr h₀ L h' m → News h₀ L h' news → Q (R t) { s with heap := h', toks := tk' }) :
    wpAny (model PySem.Challenge.rw_ad5036_01.row.prog w) (ktrTop dp un gd cn cs L a ccd cl outer) (call (.ref f) vs) Q E s := C _ _ _ _ _ _ _ _ _ _ _ _ _ _ _ _ _ _ B F X N T hk hd hu ret
/-- the same of a def that gives back a tuple of three, the first an int -/
def CtrT (D : Nat) (w : World) (p : Program) (loose : List Str) (mean : ExcName → Option Value) (mg mb : Str → Option Value) (f : Addr) (vs : List Value) (x : Int) : Prop :=
  ∀ (dp un : Nat) (gd : Option (List Code)) (cn : Str) (cs : Scope) (a : Addr) (ccd : Value) (cl : List (Str × Addr)) (outer : List Env) (A₀ : Around) (base h₀ : Heap) (L : Addr) (m : Str → Option Value) (news : List (Addr × Obj)) (s : Shared) (Q E : Value → Shared → Prop),
    Below A₀ base outer h₀ → Fr h₀ L s.heap m → (hd.heap_39 w.params).In h₀ → News h₀ L s.heap news → Top p loose mean mg mb h₀ → cs.kind = .function → dp + D < recursionLimit → un + 8 * D < cLine →
    (∀ (T : Addr) (t : Tok) (v2 v3 : Value) (h' : Heap) (tk' : Nat), Fr h₀ L h' m → News h₀ L h' ((T, { cls := .type "tuple", data := .seq #[.int x t, v2, v3] }) :: news) → Q (.ref T) { s with heap := h', toks := tk' }) →
    wpAny (model PySem.Challenge.rw_ad5036_01.row.prog w) (ktrTop dp un gd cn cs L a ccd cl outer) (call (.ref f) vs) Q E s
theorem useT {D : Nat} {f : Addr} {vs : List Value} {x : Int} {dp un : Nat} {gd : Option (List Code)} {cn : Str} {cs : Scope} {a : Addr} {ccd : Value} {cl : List (Str × Addr)} {outer : List Env} {A₀ : Around} {base h₀ : Heap} {L : Addr} {m : Str → Option Value} {news : List (Addr × Obj)} {s : Shared} {Q E : Value → Shared → Prop}
    (C : CtrT D w p loose mean mg mb f vs x) (B : Below A₀ base outer h₀) (F : Fr h₀ L s.heap m) (X : (hd.heap_39 w.params).In h₀) (N : News h₀ L s.heap news) (T : Top p loose mean mg mb h₀) (hk : cs.kind = .function) (hd : dp + D < recursionLimit) (hu : un + 8 * D < cLine)
    (ret : ∀ (T : Addr) (t : Tok) (v2 v3 : Value) (h' : Heap) (tk' : Nat), Fr h₀ L h' m → News h₀ L h' ((T, { cls := .type "tuple", data := .seq #[.int x t, v2, v3] }) :: news) → Q (.ref T) { s with heap := h', toks := tk' }) :
    wpAny (model PySem.Challenge.rw_ad5036_01.row.prog w) (ktrTop dp un gd cn cs L a ccd cl outer) (call (.ref f) vs) Q E s := C _ _ _ _ _ _ _ _ _ _ _ _ _ _ _ _ _ _ B F X N T hk hd hu ret
theorem ret_T {h₀ h' : Heap} {L : Addr} {m : Str → Option Value} {news : List (Addr × Obj)} {s : Shared} {Q : Value → Shared → Prop} {tk' : Nat} {x y : Int} {T : Addr} {t : Tok} {v2 v3 : Value}
    (hret : ∀ (T : Addr) (t : Tok) (v2 v3 : Value) (h' : Heap) (tk' : Nat), Fr h₀ L h' m → News h₀ L h' ((T, { cls := .type "tuple", data := .seq #[.int x t, v2, v3] }) :: news) → Q (.ref T) { s with heap := h', toks := tk' })
    (e : y = x) (F : Fr h₀ L h' m) (N : News h₀ L h' ((T, { cls := .type "tuple", data := .seq #[.int y t, v2, v3] }) :: news)) : Q (.ref T) { s with heap := h', toks := tk' } := by
  subst e
  exact hret T t v2 v3 h' tk' F N
end
end Mine
end
open PySem PySem.W PyProof.Rows PySem.Calls
set_option maxRecDepth 100000
namespace Mine
section
variable {w : World} {p : Program} {loose : List Str} {mean : ExcName → Option Value} {mg mb : Str → Option Value}
local macro_rules | `(tactic| ktr_rel) => `(tactic| first | with_reducible rfl | with_reducible exact k_greg | with_reducible exact k_365 | with_reducible exact k_1461 | with_reducible exact k_4 | with_reducible exact k_arm | with_reducible exact k_sark | with_reducible exact k_copt | with_reducible exact k_fren | with_reducible exact k_hebr | with_reducible exact k_isla | with_reducible exact k_half | with_reducible exact k_36525 | with_reducible exact k_15245 | with_reducible exact k_295)
local macro_rules | `(tactic| tb_rel) => `(tactic| first | decide | omega | ((try dsimp only); omega))
local macro_rules | `(tactic| walk_at "binaryOp Add float int") => `(tactic| (k_here; k_dflt (first | ((refine' r_add_fi ?q0 ?q1 ?q2 ?q3 ?_; (case q0 => ktr_rel); (case q1 => tb_rel); (case q2 => tb_rel); (case q3 => tb_rel)))); (try dsimp only)))
local macro_rules | `(tactic| walk_at "binaryOp Add int float") => `(tactic| (k_here; k_dflt (first | ((refine' r_add_if ?q0 ?q1 ?q2 ?q3 ?_; (case q0 => ktr_rel); (case q1 => tb_rel); (case q2 => tb_rel); (case q3 => tb_rel)))); (try dsimp only)))
local macro_rules | `(tactic| walk_at "binaryOp Add float float") => `(tactic| (k_here; k_dflt (first | ((refine' r_add_ff ?q0 ?q1 ?q2 ?q3 ?q4 ?_; (case q0 => ktr_rel); (case q1 => ktr_rel); (case q2 => tb_rel); (case q3 => tb_rel); (case q4 => tb_rel)))); (try dsimp only)))
local macro_rules | `(tactic| walk_at "inplaceOp Add float float") => `(tactic| (k_here; k_dflt (first | ((refine' r_iadd_ff ?q0 ?q1 ?q2 ?q3 ?q4 ?_; (case q0 => ktr_rel); (case q1 => ktr_rel); (case q2 => tb_rel); (case q3 => tb_rel); (case q4 => tb_rel)))); (try dsimp only)))
local macro_rules | `(tactic| walk_at "inplaceOp Add float int") => `(tactic| (k_here; k_dflt (first | ((refine' r_iadd_fi ?q0 ?q1 ?q2 ?q3 ?q4 ?_; (case q0 => ktr_rel); (case q1 => exact rfl); (case q2 => tb_rel); (case q3 => tb_rel); (case q4 => tb_rel)))); (try dsimp only)))
local macro_rules | `(tactic| walk_at "binaryOp Sub float int") => `(tactic| (k_here; k_dflt (first | ((refine' r_sub_fi ?q0 ?q1 ?q2 ?q3 ?_; (case q0 => ktr_rel); (case q1 => tb_rel); (case q2 => tb_rel); (case q3 => tb_rel)))); (try dsimp only)))
local macro_rules | `(tactic| walk_at "binaryOp Sub int float") => `(tactic| (k_here; k_dflt (first | ((refine' r_sub_if ?q0 ?q1 ?q2 ?q3 ?_; (case q0 => ktr_rel); (case q1 => tb_rel); (case q2 => tb_rel); (case q3 => tb_rel))) | ((refine' r_sub_J ?q0 ?q1 ?_; (case q0 => with_reducible rfl); (case q1 => tb_rel)))); (try dsimp only)))
local macro_rules | `(tactic| walk_at "binaryOp Sub float float") => `(tactic| (k_here; k_dflt (first | ((refine' r_sub_ff ?q0 ?q1 ?q2 ?q3 ?q4 ?_; (case q0 => ktr_rel); (case q1 => ktr_rel); (case q2 => tb_rel); (case q3 => tb_rel); (case q4 => tb_rel)))); (try dsimp only)))
local macro_rules | `(tactic| walk_at "binaryOp Mult int float") => `(tactic| (k_here; k_dflt (first | ((refine' r_mul_if ?q0 ?q1 ?q2 ?q3 ?q4 ?q5 ?_; (case q0 => ktr_rel); (case q1 => exact rfl); (case q2 => tb_rel); (case q3 => tb_rel); (case q4 => tb_rel); (case q5 => tb_rel)))); (try dsimp only)))
local macro_rules | `(tactic| walk_at "binaryOp Mult float int") => `(tactic| (k_here; k_dflt (first | ((refine' r_mul_fi ?q0 ?q1 ?q2 ?q3 ?q4 ?q5 ?_; (case q0 => ktr_rel); (case q1 => exact rfl); (case q2 => tb_rel); (case q3 => tb_rel); (case q4 => tb_rel); (case q5 => tb_rel))) | ((refine' r_mul_Jd ?q0 ?q1 ?_; (case q0 => with_reducible rfl); (case q1 => tb_rel)))); (try dsimp only)))
local macro_rules | `(tactic| walk_at "binaryOp Mult float float") => `(tactic| (k_here; k_dflt (first | ((refine' r_mul_ff ?q0 ?q1 ?q2 ?q3 ?q4 ?q5 ?q6 ?_; (case q0 => ktr_rel); (case q1 => ktr_rel); (case q2 => exact rfl); (case q3 => tb_rel); (case q4 => tb_rel); (case q5 => tb_rel); (case q6 => tb_rel)))); (try dsimp only)))
local macro_rules | `(tactic| walk_at "binaryOp Div int int") => `(tactic| (k_here; k_dflt (first | ((refine' r_div_ii ?q0 ?q1 ?q2 ?_; (case q0 => exact rfl); (case q1 => tb_rel); (case q2 => tb_rel)))); (try dsimp only)))
local macro_rules | `(tactic| walk_at "binaryOp Div float int") => `(tactic| (k_here; k_dflt (first | ((refine' r_div_fi ?q0 ?q1 ?q2 ?q3 ?_; (case q0 => ktr_rel); (case q1 => exact rfl); (case q2 => tb_rel); (case q3 => tb_rel)))); (try dsimp only)))
local macro_rules | `(tactic| walk_at "binaryOp Div int float") => `(tactic| (k_here; k_dflt (first | ((refine' r_div_if ?q0 ?q1 ?q2 ?q3 ?q4 ?_; (case q0 => ktr_rel); (case q1 => exact rfl); (case q2 => tb_rel); (case q3 => tb_rel); (case q4 => tb_rel))) | ((refine' r_div_Je ?q0 ?q1 ?q2 ?_; (case q0 => exact rfl); (case q1 => with_reducible rfl); (case q2 => tb_rel)))); (try dsimp only)))
local macro_rules | `(tactic| walk_at "binaryOp Div float float") => `(tactic| (k_here; k_dflt (first | ((refine' r_div_ff ?q0 ?q1 ?q2 ?q3 ?q4 ?_; (case q0 => ktr_rel); (case q1 => ktr_rel); (case q2 => exact rfl); (case q3 => tb_rel); (case q4 => tb_rel))) | ((refine' r_div_J ?q0 ?q1 ?_; (case q0 => exact rfl); (case q1 => ktr_rel)))); (try dsimp only)))
local macro_rules | `(tactic| walk_at "binaryOp Mod int float") => `(tactic| (k_here; k_dflt (first | ((refine' r_mod_if ?q0 ?q1 ?q2 ?q3 ?q4 ?q5 ?_; (case q0 => ktr_rel); (case q1 => exact rfl); (case q2 => tb_rel); (case q3 => tb_rel); (case q4 => tb_rel); (case q5 => tb_rel)))); (try dsimp only)))
local macro_rules | `(tactic| walk_at "call builtin:math.floor") => `(tactic| (k_here; k_dflt (first | ((with_reducible show wpAny _ _ (call _ [Value.float (Qt _ _) _]) _ _ _); (refine' r_floor_Q ?q0 ?q1 ?q2 ?q3 ?q4 ?_; (case q0 => exact rfl); (case q1 => tb_rel); (case q2 => tb_rel); (case q3 => tb_rel); (case q4 => tb_rel))) | ((with_reducible show wpAny _ _ (call _ [Value.float (Float64.div (H _) (H _)) _]) _ _ _); (refine' r_floor_D ?q0 ?q1 ?q2 ?q3 ?q4 ?_; (case q0 => exact rfl); (case q1 => tb_rel); (case q2 => tb_rel); (case q3 => tb_rel); (case q4 => tb_rel))) | ((with_reducible show wpAny _ _ (call _ [Value.float (H _) _]) _ _ _); (refine' r_floor_H ?q0 ?q1 ?q2 ?_; (case q0 => exact rfl); (case q1 => ktr_rel); (case q2 => tb_rel))) | ((with_reducible show wpAny _ _ (call _ [Value.float (Float64.add _ _) _]) _ _ _); (refine' r_floor (v := 1) ?q0 ?q1 ?q2 ?_; (case q0 => exact rfl); (case q1 => decide +kernel); (case q2 => decide +kernel))) | ((with_reducible show wpAny _ _ (call _ [Value.float (Float64.add _ _) _]) _ _ _); (refine' r_floor (v := 81) ?q0 ?q1 ?q2 ?_; (case q0 => exact rfl); (case q1 => decide +kernel); (case q2 => decide +kernel))) | ((with_reducible show wpAny _ _ (call _ [Value.float (Float64.div (Float64.sub _ _) _) _]) _ _ _); (refine' r_floor_Jc ?q0 ?q1 ?_; (case q0 => exact rfl); (case q1 => tb_rel))) | ((with_reducible show wpAny _ _ (call _ [Value.float (Float64.div (Float64.ofInt _) _) _]) _ _ _); (refine' r_floor_Je ?q0 ?q1 ?_; (case q0 => exact rfl); (case q1 => tb_rel))) | ((with_reducible show wpAny _ _ (call _ [Value.float (Float64.mul _ _) _]) _ _ _); (refine' r_floor_Jd ?q0 ?q1 ?_; (case q0 => exact rfl); (case q1 => tb_rel)))); (try dsimp only)))
local macro_rules | `(tactic| walk_at "call builtin:math.ceil") => `(tactic| (k_here; k_dflt (first | ((with_reducible show wpAny _ _ (call _ [Value.float (Float64.div (H _) (H _)) _]) _ _ _); (refine' r_ceil_D ?q0 ?q1 ?q2 ?q3 ?q4 ?_; (case q0 => exact rfl); (case q1 => tb_rel); (case q2 => tb_rel); (case q3 => tb_rel); (case q4 => tb_rel))) | ((with_reducible show wpAny _ _ (call _ [Value.float (H _) _]) _ _ _); (refine' r_ceil_H ?q0 ?q1 ?q2 ?_; (case q0 => exact rfl); (case q1 => ktr_rel); (case q2 => tb_rel)))); (try dsimp only)))
local macro_rules | `(tactic| walk_at "call builtin:math.trunc") => `(tactic| (k_here; k_dflt (first | ((with_reducible show wpAny _ _ (call _ [Value.float (Qt _ _) _]) _ _ _); (refine' r_trunc_Q ?q0 ?q1 ?q2 ?q3 ?q4 ?q5 ?_; (case q0 => exact rfl); (case q1 => tb_rel); (case q2 => tb_rel); (case q3 => tb_rel); (case q4 => tb_rel); (case q5 => tb_rel))) | ((with_reducible show wpAny _ _ (call _ [Value.float (Float64.div (H _) (H _)) _]) _ _ _); (refine' r_trunc_D ?q0 ?q1 ?q2 ?q3 ?q4 ?q5 ?_; (case q0 => exact rfl); (case q1 => tb_rel); (case q2 => tb_rel); (case q3 => tb_rel); (case q4 => tb_rel); (case q5 => tb_rel)))); (try dsimp only)))
local macro_rules | `(tactic| walk_at "call type:int") => `(tactic| (k_here; k_dflt (first | ((with_reducible show wpAny _ _ (call _ [Value.float (H _) _]) _ _ _); (refine' r_int_H ?q0 ?q1 ?q2 ?q3 ?_; (case q0 => exact rfl); (case q1 => ktr_rel); (case q2 => tb_rel); (case q3 => tb_rel)))); (try dsimp only)))
local macro_rules | `(tactic| walk_at "call builtin:abs") => `(tactic| (k_here; k_dflt (first | ((with_reducible show wpAny _ _ (call _ [Value.float (H _) _]) _ _ _); (refine' r_abs ?q0 ?_; (case q0 => tb_rel)))); (try dsimp only)))
local macro_rules | `(tactic| walk_at "compareOp LtE float int") => `(tactic| (k_here; k_dflt (first | ((refine' r_le ?q0 ?_; (case q0 => tb_rel)))); (try dsimp only)))
local macro_rules | `(tactic| walk_at "compareOp Lt float int") => `(tactic| (k_here; k_dflt (first | ((refine' r_lt ?q0 ?_; (case q0 => tb_rel)))); (try dsimp only)))
local macro_rules | `(tactic| k_room) => `(tactic| ktr_room)
local macro_rules | `(tactic| walk_at "compareOp In int ref") => `(tactic| (k_here; k_dflt (first
  | (refine' r_in_I (b := true) ?q1 ?q2 ?q3 ?_; (case q1 => kun_tup); (case q2 => exact rfl); (case q3 => exact rfl))
  | (refine' r_in_I (b := false) ?q1 ?q2 ?q3 ?_; (case q1 => kun_tup); (case q2 => exact rfl); (case q3 => exact rfl)))))
local macro_rules | `(tactic| walk_at "compareOp NotIn bool ref") => `(tactic| (k_here; k_dflt (refine' r_notin_F (b := true) ?q1 ?q2 ?q3 ?_; (case q1 => kun_lst); (case q2 => exact rfl); (case q3 => exact rfl))))
section
local macro_rules | `(tactic| walk_at "no such key 0") => `(tactic| fail "none")
local macro_rules | `(tactic| walk_at "no such key 1") => `(tactic| fail "none")
local macro_rules | `(tactic| walk_at "no such key 2") => `(tactic| fail "none")
local macro_rules | `(tactic| walk_at "no such key 3") => `(tactic| fail "none")
local macro_rules | `(tactic| walk_at "no such key 4") => `(tactic| fail "none")
local macro_rules | `(tactic| walk_at "no such key 5") => `(tactic| fail "none")
local macro_rules | `(tactic| walk_at "no such key 6") => `(tactic| fail "none")
local macro_rules | `(tactic| walk_at "no such key 7") => `(tactic| fail "none")
local macro_rules | `(tactic| walk_at "no such key 8") => `(tactic| fail "none")
local macro_rules | `(tactic| walk_at "no such key 9") => `(tactic| fail "none")
local macro_rules | `(tactic| walk_at "no such key 10") => `(tactic| fail "none")
local macro_rules | `(tactic| walk_at "no such key 11") => `(tactic| fail "none")
local macro_rules | `(tactic| walk_at "no such key 12") => `(tactic| fail "none")
local macro_rules | `(tactic| walk_at "no such key 13") => `(tactic| fail "none")
local macro_rules | `(tactic| walk_at "no such key 14") => `(tactic| fail "none")
local macro_rules | `(tactic| walk_at "no such key 15") => `(tactic| fail "none")
local macro_rules | `(tactic| walk_at "no such key 16") => `(tactic| fail "none")
local macro_rules | `(tactic| walk_at "no such key 17") => `(tactic| fail "none")
local macro_rules | `(tactic| walk_at "no such key 18") => `(tactic| fail "none")
local macro_rules | `(tactic| walk_at "no such key 19") => `(tactic| fail "none")
local macro_rules | `(tactic| walk_at "no such key 20") => `(tactic| fail "none")
local macro_rules | `(tactic| walk_at "no such key 21") => `(tactic| fail "none")
local macro_rules | `(tactic| walk_at "no such key 22") => `(tactic| fail "none")
local macro_rules | `(tactic| walk_at "no such key 23") => `(tactic| fail "none")
def leapB (y : Int) : Bool := y % 4 == 0 && (y % 100 != 0 || y % 400 == 0)
theorem fm {a b : Int} (h : 0 ≤ b) : a.fmod b = a % b := Int.fmod_eq_emod_of_nonneg a h
set_option maxHeartbeats 0 in
theorem c_isleap (y : Int) (t : Tok) (b : Bool) (hb : leapB y = b) : Ctr 1 w p loose mean mg mb 50 [.int y t] (fun _ => .bool (b)) := by
  unfold Ctr
  k_fill
  intro dp un gd cn cs a ccd cl outer A₀ base h₀ L m news s Q E B F X N T hk hd hu hret
  refine wpAny_call ?_
  k_dflt cell_enter
  k_steps
  all_goals exact ret_B hret (by (rw [← hb]; unfold leapB; simp only [fm (show (0 : Int) ≤ 4 by decide), fm (show (0 : Int) ≤ 100 by decide), fm (show (0 : Int) ≤ 400 by decide)] at *; simp [*])) (by k_asm) (by k_asm)
end
section
local macro_rules | `(tactic| walk_at "no such key 0") => `(tactic| fail "none")
local macro_rules | `(tactic| walk_at "no such key 1") => `(tactic| fail "none")
local macro_rules | `(tactic| walk_at "no such key 2") => `(tactic| fail "none")
local macro_rules | `(tactic| walk_at "no such key 3") => `(tactic| fail "none")
local macro_rules | `(tactic| walk_at "no such key 4") => `(tactic| fail "none")
local macro_rules | `(tactic| walk_at "no such key 5") => `(tactic| fail "none")
local macro_rules | `(tactic| walk_at "no such key 6") => `(tactic| fail "none")
local macro_rules | `(tactic| walk_at "no such key 7") => `(tactic| fail "none")
local macro_rules | `(tactic| walk_at "no such key 8") => `(tactic| fail "none")
local macro_rules | `(tactic| walk_at "no such key 9") => `(tactic| fail "none")
local macro_rules | `(tactic| walk_at "no such key 10") => `(tactic| fail "none")
local macro_rules | `(tactic| walk_at "no such key 11") => `(tactic| fail "none")
local macro_rules | `(tactic| walk_at "no such key 12") => `(tactic| fail "none")
local macro_rules | `(tactic| walk_at "no such key 13") => `(tactic| fail "none")
local macro_rules | `(tactic| walk_at "no such key 14") => `(tactic| fail "none")
local macro_rules | `(tactic| walk_at "no such key 15") => `(tactic| fail "none")
local macro_rules | `(tactic| walk_at "no such key 16") => `(tactic| fail "none")
local macro_rules | `(tactic| walk_at "no such key 17") => `(tactic| fail "none")
local macro_rules | `(tactic| walk_at "no such key 18") => `(tactic| fail "none")
local macro_rules | `(tactic| walk_at "no such key 19") => `(tactic| fail "none")
local macro_rules | `(tactic| walk_at "no such key 20") => `(tactic| fail "none")
local macro_rules | `(tactic| walk_at "no such key 21") => `(tactic| fail "none")
local macro_rules | `(tactic| walk_at "no such key 22") => `(tactic| fail "none")
local macro_rules | `(tactic| walk_at "no such key 23") => `(tactic| fail "none")
local macro_rules | `(tactic| walk_at "call ref") => `(tactic| (k_here; k_dflt (refine' use (c_isleap _ _ _ ?h0) ?k1 ?k2 ?k3 ?k4 ?k5 ?kK ?kd ?ku ?_; (case k1 => k_asm); (case k2 => k_asm); (case k3 => k_asm); (case k4 => k_asm); (case k5 => k_asm); (case kK => first | exact rfl | assumption); (case h0 => assumption); (case kd => first | (refine' room1 ?a ?b; (case a => assumption); (case b => decide)) | ktr_room); (case ku => first | (refine' unit1 ?a ?b; (case a => assumption); (case b => decide)) | ktr_units); intro t9 h9 tk9 F9 N9; (try dsimp only); (try k_sweep); (try k_fold))))
set_option maxHeartbeats 0 in
theorem c_greg3T (y : Int) (t t1 t2 : Tok) (hy : -2100000000 ≤ y ∧ y ≤ 2100000000) (hb : leapB y = true) : Ctr 3 w p loose mean mg mb 64 [.int y t, .int 3 t1, .int 21 t2] (fun t => .float (H (6885702 + 4 * (80 + 365 * (y - 1) + (y - 1) / 4 - (y - 1) / 100 + (y - 1) / 400))) t) := by
  unfold Ctr
  k_fill
  intro dp un gd cn cs a ccd cl outer A₀ base h₀ L m news s Q E B F X N T hk hd hu hret
  refine wpAny_call ?_
  k_dflt (refine' code_def ?k1 ?k2 ?k3 ?k4 ?k5 ?kA ?kF ?kK ?k6 ?k7 ?k8 ?k9 ?kB ?_ ?c2 ?c3 ?c4 ?c5; (case kA => exact rfl); (case kF => exact rfl); (case kK => assumption); (case k1 => k_asm); (case k2 => k_asm); (case k3 => k_asm); (case k4 => k_asm); (case k5 => k_asm); (case k6 => k_is); (case k7 => k_is); (case k8 => ktr_room); (case k9 => first | exact BindsTo.of_eq rfl | exact binds_K (by k_in) rfl (by k_is) rfl rfl rfl); (case c5 => decide); (case kB => exact locs rfl); (case c2 => exact rfl); (case c3 => exact rfl); (case c4 => exact rfl); k_whole; intro g' L' h' FG' F' N' B' X' T'; (try dsimp only); (try k_lift B'); (try k_fold))
  k_steps
  all_goals exact ret_F hret (by omega) (by k_asm) (by first | k_asm | (refine' cb_drop ?cbN ?cbS; (case cbN => assumption); (case cbS => kcj_all)))
set_option maxHeartbeats 0 in
theorem c_greg3F (y : Int) (t t1 t2 : Tok) (hy : -2100000000 ≤ y ∧ y ≤ 2100000000) (hb : leapB y = false) : Ctr 3 w p loose mean mg mb 64 [.int y t, .int 3 t1, .int 22 t2] (fun t => .float (H (6885702 + 4 * (80 + 365 * (y - 1) + (y - 1) / 4 - (y - 1) / 100 + (y - 1) / 400))) t) := by
  unfold Ctr
  k_fill
  intro dp un gd cn cs a ccd cl outer A₀ base h₀ L m news s Q E B F X N T hk hd hu hret
  refine wpAny_call ?_
  k_dflt (refine' code_def ?k1 ?k2 ?k3 ?k4 ?k5 ?kA ?kF ?kK ?k6 ?k7 ?k8 ?k9 ?kB ?_ ?c2 ?c3 ?c4 ?c5; (case kA => exact rfl); (case kF => exact rfl); (case kK => assumption); (case k1 => k_asm); (case k2 => k_asm); (case k3 => k_asm); (case k4 => k_asm); (case k5 => k_asm); (case k6 => k_is); (case k7 => k_is); (case k8 => ktr_room); (case k9 => first | exact BindsTo.of_eq rfl | exact binds_K (by k_in) rfl (by k_is) rfl rfl rfl); (case c5 => decide); (case kB => exact locs rfl); (case c2 => exact rfl); (case c3 => exact rfl); (case c4 => exact rfl); k_whole; intro g' L' h' FG' F' N' B' X' T'; (try dsimp only); (try k_lift B'); (try k_fold))
  k_steps
  all_goals exact ret_F hret (by omega) (by k_asm) (by first | k_asm | (refine' cb_drop ?cbN ?cbS; (case cbN => assumption); (case cbS => kcj_all)))
end
section
local macro_rules | `(tactic| walk_at "no such key 0") => `(tactic| fail "none")
local macro_rules | `(tactic| walk_at "no such key 1") => `(tactic| fail "none")
local macro_rules | `(tactic| walk_at "no such key 2") => `(tactic| fail "none")
local macro_rules | `(tactic| walk_at "no such key 3") => `(tactic| fail "none")
local macro_rules | `(tactic| walk_at "no such key 4") => `(tactic| fail "none")
local macro_rules | `(tactic| walk_at "no such key 5") => `(tactic| fail "none")
local macro_rules | `(tactic| walk_at "no such key 6") => `(tactic| fail "none")
local macro_rules | `(tactic| walk_at "no such key 7") => `(tactic| fail "none")
local macro_rules | `(tactic| walk_at "no such key 8") => `(tactic| fail "none")
local macro_rules | `(tactic| walk_at "no such key 9") => `(tactic| fail "none")
local macro_rules | `(tactic| walk_at "no such key 10") => `(tactic| fail "none")
local macro_rules | `(tactic| walk_at "no such key 11") => `(tactic| fail "none")
local macro_rules | `(tactic| walk_at "no such key 12") => `(tactic| fail "none")
local macro_rules | `(tactic| walk_at "no such key 13") => `(tactic| fail "none")
local macro_rules | `(tactic| walk_at "no such key 14") => `(tactic| fail "none")
local macro_rules | `(tactic| walk_at "no such key 15") => `(tactic| fail "none")
local macro_rules | `(tactic| walk_at "no such key 16") => `(tactic| fail "none")
local macro_rules | `(tactic| walk_at "no such key 17") => `(tactic| fail "none")
local macro_rules | `(tactic| walk_at "no such key 18") => `(tactic| fail "none")
local macro_rules | `(tactic| walk_at "no such key 19") => `(tactic| fail "none")
local macro_rules | `(tactic| walk_at "no such key 20") => `(tactic| fail "none")
local macro_rules | `(tactic| walk_at "no such key 21") => `(tactic| fail "none")
local macro_rules | `(tactic| walk_at "no such key 22") => `(tactic| fail "none")
local macro_rules | `(tactic| walk_at "no such key 23") => `(tactic| fail "none")
local macro_rules | `(tactic| walk_at "no such key 24") => `(tactic| fail "none")
local macro_rules | `(tactic| walk_at "no such key 25") => `(tactic| fail "none")
set_option maxHeartbeats 0 in
theorem c_greg (y : Int) (t t1 t2 : Tok) (hy : -2100000000 ≤ y ∧ y ≤ 2100000000) : Ctr 3 w p loose mean mg mb 64 [.int y t, .int 1 t1, .int 1 t2] (fun t => .float (H (6885702 + 4 * (365 * (y - 1) + (y - 1) / 4 - (y - 1) / 100 + (y - 1) / 400))) t) := by
  unfold Ctr
  k_fill
  intro dp un gd cn cs a ccd cl outer A₀ base h₀ L m news s Q E B F X N T hk hd hu hret
  refine wpAny_call ?_
  k_dflt (refine' code_def ?k1 ?k2 ?k3 ?k4 ?k5 ?kA ?kF ?kK ?k6 ?k7 ?k8 ?k9 ?kB ?_ ?c2 ?c3 ?c4 ?c5; (case kA => exact rfl); (case kF => exact rfl); (case kK => assumption); (case k1 => k_asm); (case k2 => k_asm); (case k3 => k_asm); (case k4 => k_asm); (case k5 => k_asm); (case k6 => k_is); (case k7 => k_is); (case k8 => ktr_room); (case k9 => first | exact BindsTo.of_eq rfl | exact binds_K (by k_in) rfl (by k_is) rfl rfl rfl); (case c5 => decide); (case kB => exact locs rfl); (case c2 => exact rfl); (case c3 => exact rfl); (case c4 => exact rfl); k_whole; intro g' L' h' FG' F' N' B' X' T'; (try dsimp only); (try k_lift B'); (try k_fold))
  k_steps
  all_goals exact ret_F hret (by omega) (by k_asm) (by first | k_asm | (refine' cb_drop ?cbN ?cbS; (case cbN => assumption); (case cbS => kcj_all)))
end
section
local macro_rules | `(tactic| walk_at "no such key 0") => `(tactic| fail "none")
local macro_rules | `(tactic| walk_at "no such key 1") => `(tactic| fail "none")
local macro_rules | `(tactic| walk_at "no such key 2") => `(tactic| fail "none")
local macro_rules | `(tactic| walk_at "no such key 3") => `(tactic| fail "none")
local macro_rules | `(tactic| walk_at "no such key 4") => `(tactic| fail "none")
local macro_rules | `(tactic| walk_at "no such key 5") => `(tactic| fail "none")
local macro_rules | `(tactic| walk_at "no such key 6") => `(tactic| fail "none")
local macro_rules | `(tactic| walk_at "no such key 7") => `(tactic| fail "none")
local macro_rules | `(tactic| walk_at "no such key 8") => `(tactic| fail "none")
local macro_rules | `(tactic| walk_at "no such key 9") => `(tactic| fail "none")
local macro_rules | `(tactic| walk_at "no such key 10") => `(tactic| fail "none")
local macro_rules | `(tactic| walk_at "no such key 11") => `(tactic| fail "none")
local macro_rules | `(tactic| walk_at "no such key 12") => `(tactic| fail "none")
local macro_rules | `(tactic| walk_at "no such key 13") => `(tactic| fail "none")
local macro_rules | `(tactic| walk_at "no such key 14") => `(tactic| fail "none")
local macro_rules | `(tactic| walk_at "no such key 15") => `(tactic| fail "none")
local macro_rules | `(tactic| walk_at "no such key 16") => `(tactic| fail "none")
local macro_rules | `(tactic| walk_at "no such key 17") => `(tactic| fail "none")
local macro_rules | `(tactic| walk_at "no such key 18") => `(tactic| fail "none")
local macro_rules | `(tactic| walk_at "no such key 19") => `(tactic| fail "none")
local macro_rules | `(tactic| walk_at "no such key 20") => `(tactic| fail "none")
local macro_rules | `(tactic| walk_at "no such key 21") => `(tactic| fail "none")
local macro_rules | `(tactic| walk_at "no such key 22") => `(tactic| fail "none")
local macro_rules | `(tactic| walk_at "no such key 23") => `(tactic| fail "none")
local macro_rules | `(tactic| walk_at "no such key 24") => `(tactic| fail "none")
local macro_rules | `(tactic| walk_at "no such key 25") => `(tactic| fail "none")
local macro_rules | `(tactic| walk_at "no such key 26") => `(tactic| fail "none")
set_option maxHeartbeats 0 in
theorem c_jul (y : Int) (t t1 t2 : Tok) (hy : -2100000000 ≤ y ∧ y ≤ 2100000000) : Ctr 4 w p loose mean mg mb 237 [.int y t, .int 1 t1, .int 1 t2] (fun t => .float (H (4 * (1461 * (y + 4715) / 4 + 429) - 6098)) t) := by
  unfold Ctr
  k_fill
  intro dp un gd cn cs a ccd cl outer A₀ base h₀ L m news s Q E B F X N T hk hd hu hret
  refine wpAny_call ?_
  k_dflt (refine' code_def ?k1 ?k2 ?k3 ?k4 ?k5 ?kA ?kF ?kK ?k6 ?k7 ?k8 ?k9 ?kB ?_ ?c2 ?c3 ?c4 ?c5; (case kA => exact rfl); (case kF => exact rfl); (case kK => assumption); (case k1 => k_asm); (case k2 => k_asm); (case k3 => k_asm); (case k4 => k_asm); (case k5 => k_asm); (case k6 => k_is); (case k7 => k_is); (case k8 => ktr_room); (case k9 => first | exact BindsTo.of_eq rfl | exact binds_K (by k_in) rfl (by k_is) rfl rfl rfl); (case c5 => decide); (case kB => exact locs rfl); (case c2 => exact rfl); (case c3 => exact rfl); (case c4 => exact rfl); k_whole; intro g' L' h' FG' F' N' B' X' T'; (try dsimp only); (try k_lift B'); (try k_fold))
  k_steps
  all_goals exact ret_F hret (by omega) (by k_asm) (by first | k_asm | (refine' cb_drop ?cbN ?cbS; (case cbN => assumption); (case cbS => kcj_all)))
end
section
local macro_rules | `(tactic| walk_at "no such key 0") => `(tactic| fail "none")
local macro_rules | `(tactic| walk_at "no such key 1") => `(tactic| fail "none")
local macro_rules | `(tactic| walk_at "no such key 2") => `(tactic| fail "none")
local macro_rules | `(tactic| walk_at "no such key 3") => `(tactic| fail "none")
local macro_rules | `(tactic| walk_at "no such key 4") => `(tactic| fail "none")
local macro_rules | `(tactic| walk_at "no such key 5") => `(tactic| fail "none")
local macro_rules | `(tactic| walk_at "no such key 6") => `(tactic| fail "none")
local macro_rules | `(tactic| walk_at "no such key 7") => `(tactic| fail "none")
local macro_rules | `(tactic| walk_at "no such key 8") => `(tactic| fail "none")
local macro_rules | `(tactic| walk_at "no such key 9") => `(tactic| fail "none")
local macro_rules | `(tactic| walk_at "no such key 10") => `(tactic| fail "none")
local macro_rules | `(tactic| walk_at "no such key 11") => `(tactic| fail "none")
local macro_rules | `(tactic| walk_at "no such key 12") => `(tactic| fail "none")
local macro_rules | `(tactic| walk_at "no such key 13") => `(tactic| fail "none")
local macro_rules | `(tactic| walk_at "no such key 14") => `(tactic| fail "none")
local macro_rules | `(tactic| walk_at "no such key 15") => `(tactic| fail "none")
local macro_rules | `(tactic| walk_at "no such key 16") => `(tactic| fail "none")
local macro_rules | `(tactic| walk_at "no such key 17") => `(tactic| fail "none")
local macro_rules | `(tactic| walk_at "no such key 18") => `(tactic| fail "none")
local macro_rules | `(tactic| walk_at "no such key 19") => `(tactic| fail "none")
local macro_rules | `(tactic| walk_at "no such key 20") => `(tactic| fail "none")
local macro_rules | `(tactic| walk_at "no such key 21") => `(tactic| fail "none")
local macro_rules | `(tactic| walk_at "no such key 22") => `(tactic| fail "none")
local macro_rules | `(tactic| walk_at "no such key 23") => `(tactic| fail "none")
local macro_rules | `(tactic| walk_at "no such key 24") => `(tactic| fail "none")
local macro_rules | `(tactic| walk_at "no such key 25") => `(tactic| fail "none")
local macro_rules | `(tactic| walk_at "no such key 26") => `(tactic| fail "none")
local macro_rules | `(tactic| walk_at "no such key 27") => `(tactic| fail "none")
set_option maxHeartbeats 0 in
theorem c_copt (y : Int) (t t1 t2 : Tok) (hy : -2100000000 ≤ y ∧ y ≤ 2100000000) : Ctr 2 w p loose mean mg mb 94 [.int y t, .int 1 t1, .int 1 t2] (fun t => .float (H (4 * ((y - 1) * 365 + y / 4) + 7300118)) t) := by
  unfold Ctr
  k_fill
  intro dp un gd cn cs a ccd cl outer A₀ base h₀ L m news s Q E B F X N T hk hd hu hret
  refine wpAny_call ?_
  k_dflt (refine' code_def ?k1 ?k2 ?k3 ?k4 ?k5 ?kA ?kF ?kK ?k6 ?k7 ?k8 ?k9 ?kB ?_ ?c2 ?c3 ?c4 ?c5; (case kA => exact rfl); (case kF => exact rfl); (case kK => assumption); (case k1 => k_asm); (case k2 => k_asm); (case k3 => k_asm); (case k4 => k_asm); (case k5 => k_asm); (case k6 => k_is); (case k7 => k_is); (case k8 => ktr_room); (case k9 => first | exact BindsTo.of_eq rfl | exact binds_K (by k_in) rfl (by k_is) rfl rfl rfl); (case c5 => decide); (case kB => exact locs rfl); (case c2 => exact rfl); (case c3 => exact rfl); (case c4 => exact rfl); k_whole; intro g' L' h' FG' F' N' B' X' T'; (try dsimp only); (try k_lift B'); (try k_fold))
  k_steps
  all_goals exact ret_F hret (by omega) (by k_asm) (by first | k_asm | (refine' cb_drop ?cbN ?cbS; (case cbN => assumption); (case cbS => kcj_all)))
end
section
local macro_rules | `(tactic| walk_at "no such key 0") => `(tactic| fail "none")
local macro_rules | `(tactic| walk_at "no such key 1") => `(tactic| fail "none")
local macro_rules | `(tactic| walk_at "no such key 2") => `(tactic| fail "none")
local macro_rules | `(tactic| walk_at "no such key 3") => `(tactic| fail "none")
local macro_rules | `(tactic| walk_at "no such key 4") => `(tactic| fail "none")
local macro_rules | `(tactic| walk_at "no such key 5") => `(tactic| fail "none")
local macro_rules | `(tactic| walk_at "no such key 6") => `(tactic| fail "none")
local macro_rules | `(tactic| walk_at "no such key 7") => `(tactic| fail "none")
local macro_rules | `(tactic| walk_at "no such key 8") => `(tactic| fail "none")
local macro_rules | `(tactic| walk_at "no such key 9") => `(tactic| fail "none")
local macro_rules | `(tactic| walk_at "no such key 10") => `(tactic| fail "none")
local macro_rules | `(tactic| walk_at "no such key 11") => `(tactic| fail "none")
local macro_rules | `(tactic| walk_at "no such key 12") => `(tactic| fail "none")
local macro_rules | `(tactic| walk_at "no such key 13") => `(tactic| fail "none")
local macro_rules | `(tactic| walk_at "no such key 14") => `(tactic| fail "none")
local macro_rules | `(tactic| walk_at "no such key 15") => `(tactic| fail "none")
local macro_rules | `(tactic| walk_at "no such key 16") => `(tactic| fail "none")
local macro_rules | `(tactic| walk_at "no such key 17") => `(tactic| fail "none")
local macro_rules | `(tactic| walk_at "no such key 18") => `(tactic| fail "none")
local macro_rules | `(tactic| walk_at "no such key 19") => `(tactic| fail "none")
local macro_rules | `(tactic| walk_at "no such key 20") => `(tactic| fail "none")
local macro_rules | `(tactic| walk_at "no such key 21") => `(tactic| fail "none")
local macro_rules | `(tactic| walk_at "no such key 22") => `(tactic| fail "none")
local macro_rules | `(tactic| walk_at "no such key 23") => `(tactic| fail "none")
local macro_rules | `(tactic| walk_at "no such key 24") => `(tactic| fail "none")
local macro_rules | `(tactic| walk_at "no such key 25") => `(tactic| fail "none")
local macro_rules | `(tactic| walk_at "no such key 26") => `(tactic| fail "none")
local macro_rules | `(tactic| walk_at "no such key 27") => `(tactic| fail "none")
local macro_rules | `(tactic| walk_at "no such key 28") => `(tactic| fail "none")
set_option maxHeartbeats 0 in
theorem c_isl (y m : Int) (t t1 t2 : Tok) (hy : -2100000000 ≤ y ∧ y ≤ 2100000000) (hm : -100 ≤ m ∧ m ≤ 100) : Ctr 2 w p loose mean mg mb 194 [.int y t, .int m t1, .int 1 t2] (fun t => .float (H (4 * (-((-(118 * (m - 1))) / 4) + (y - 1) * 354 + (3 + 11 * y) / 30) + 7793758)) t) := by
  unfold Ctr
  k_fill
  intro dp un gd cn cs a ccd cl outer A₀ base h₀ L m news s Q E B F X N T hk hd hu hret
  refine wpAny_call ?_
  k_dflt (refine' code_def ?k1 ?k2 ?k3 ?k4 ?k5 ?kA ?kF ?kK ?k6 ?k7 ?k8 ?k9 ?kB ?_ ?c2 ?c3 ?c4 ?c5; (case kA => exact rfl); (case kF => exact rfl); (case kK => assumption); (case k1 => k_asm); (case k2 => k_asm); (case k3 => k_asm); (case k4 => k_asm); (case k5 => k_asm); (case k6 => k_is); (case k7 => k_is); (case k8 => ktr_room); (case k9 => first | exact BindsTo.of_eq rfl | exact binds_K (by k_in) rfl (by k_is) rfl rfl rfl); (case c5 => decide); (case kB => exact locs rfl); (case c2 => exact rfl); (case c3 => exact rfl); (case c4 => exact rfl); k_whole; intro g' L' h' FG' F' N' B' X' T'; (try dsimp only); (try k_lift B'); (try k_fold))
  k_steps
  all_goals exact ret_F hret (by omega) (by k_asm) (by first | k_asm | (refine' cb_drop ?cbN ?cbS; (case cbN => assumption); (case cbS => kcj_all)))
end
section
local macro_rules | `(tactic| walk_at "no such key 0") => `(tactic| fail "none")
local macro_rules | `(tactic| walk_at "no such key 1") => `(tactic| fail "none")
local macro_rules | `(tactic| walk_at "no such key 2") => `(tactic| fail "none")
local macro_rules | `(tactic| walk_at "no such key 3") => `(tactic| fail "none")
local macro_rules | `(tactic| walk_at "no such key 4") => `(tactic| fail "none")
local macro_rules | `(tactic| walk_at "no such key 5") => `(tactic| fail "none")
local macro_rules | `(tactic| walk_at "no such key 6") => `(tactic| fail "none")
local macro_rules | `(tactic| walk_at "no such key 7") => `(tactic| fail "none")
local macro_rules | `(tactic| walk_at "no such key 8") => `(tactic| fail "none")
local macro_rules | `(tactic| walk_at "no such key 9") => `(tactic| fail "none")
local macro_rules | `(tactic| walk_at "no such key 10") => `(tactic| fail "none")
local macro_rules | `(tactic| walk_at "no such key 11") => `(tactic| fail "none")
local macro_rules | `(tactic| walk_at "no such key 12") => `(tactic| fail "none")
local macro_rules | `(tactic| walk_at "no such key 13") => `(tactic| fail "none")
local macro_rules | `(tactic| walk_at "no such key 14") => `(tactic| fail "none")
local macro_rules | `(tactic| walk_at "no such key 15") => `(tactic| fail "none")
local macro_rules | `(tactic| walk_at "no such key 16") => `(tactic| fail "none")
local macro_rules | `(tactic| walk_at "no such key 17") => `(tactic| fail "none")
local macro_rules | `(tactic| walk_at "no such key 18") => `(tactic| fail "none")
local macro_rules | `(tactic| walk_at "no such key 19") => `(tactic| fail "none")
local macro_rules | `(tactic| walk_at "no such key 20") => `(tactic| fail "none")
local macro_rules | `(tactic| walk_at "no such key 21") => `(tactic| fail "none")
local macro_rules | `(tactic| walk_at "no such key 22") => `(tactic| fail "none")
local macro_rules | `(tactic| walk_at "no such key 23") => `(tactic| fail "none")
local macro_rules | `(tactic| walk_at "no such key 24") => `(tactic| fail "none")
local macro_rules | `(tactic| walk_at "no such key 25") => `(tactic| fail "none")
local macro_rules | `(tactic| walk_at "no such key 26") => `(tactic| fail "none")
local macro_rules | `(tactic| walk_at "no such key 27") => `(tactic| fail "none")
local macro_rules | `(tactic| walk_at "no such key 28") => `(tactic| fail "none")
local macro_rules | `(tactic| walk_at "no such key 29") => `(tactic| fail "none")
set_option maxHeartbeats 0 in
theorem c_pos (y : Int) (t t1 t2 : Tok) (hy : 1 ≤ y ∧ y ≤ 2100000000) : Ctr 3 w p loose mean mg mb 251 [.int y t, .int 1 t1, .int 1 t2] (fun t => .float (H (6885702 + 4 * (365 * ((y + 1788) - 1) + ((y + 1788) - 1) / 4 - ((y + 1788) - 1) / 100 + ((y + 1788) - 1) / 400))) t) := by
  unfold Ctr
  k_fill
  intro dp un gd cn cs a ccd cl outer A₀ base h₀ L m news s Q E B F X N T hk hd hu hret
  refine wpAny_call ?_
  k_dflt (refine' code_def ?k1 ?k2 ?k3 ?k4 ?k5 ?kA ?kF ?kK ?k6 ?k7 ?k8 ?k9 ?kB ?_ ?c2 ?c3 ?c4 ?c5; (case kA => exact rfl); (case kF => exact rfl); (case kK => assumption); (case k1 => k_asm); (case k2 => k_asm); (case k3 => k_asm); (case k4 => k_asm); (case k5 => k_asm); (case k6 => k_is); (case k7 => k_is); (case k8 => ktr_room); (case k9 => first | exact BindsTo.of_eq rfl | exact binds_K (by k_in) rfl (by k_is) rfl rfl rfl); (case c5 => decide); (case kB => exact locs rfl); (case c2 => exact rfl); (case c3 => exact rfl); (case c4 => exact rfl); k_whole; intro g' L' h' FG' F' N' B' X' T'; (try dsimp only); (try k_lift B'); (try k_fold))
  k_steps
  all_goals exact ret_F hret (by omega) (by k_asm) (by first | k_asm | (refine' cb_drop ?cbN ?cbS; (case cbN => assumption); (case cbS => kcj_all)))
end
section
local macro_rules | `(tactic| walk_at "no such key 0") => `(tactic| fail "none")
local macro_rules | `(tactic| walk_at "no such key 1") => `(tactic| fail "none")
local macro_rules | `(tactic| walk_at "no such key 2") => `(tactic| fail "none")
local macro_rules | `(tactic| walk_at "no such key 3") => `(tactic| fail "none")
local macro_rules | `(tactic| walk_at "no such key 4") => `(tactic| fail "none")
local macro_rules | `(tactic| walk_at "no such key 5") => `(tactic| fail "none")
local macro_rules | `(tactic| walk_at "no such key 6") => `(tactic| fail "none")
local macro_rules | `(tactic| walk_at "no such key 7") => `(tactic| fail "none")
local macro_rules | `(tactic| walk_at "no such key 8") => `(tactic| fail "none")
local macro_rules | `(tactic| walk_at "no such key 9") => `(tactic| fail "none")
local macro_rules | `(tactic| walk_at "no such key 10") => `(tactic| fail "none")
local macro_rules | `(tactic| walk_at "no such key 11") => `(tactic| fail "none")
local macro_rules | `(tactic| walk_at "no such key 12") => `(tactic| fail "none")
local macro_rules | `(tactic| walk_at "no such key 13") => `(tactic| fail "none")
local macro_rules | `(tactic| walk_at "no such key 14") => `(tactic| fail "none")
local macro_rules | `(tactic| walk_at "no such key 15") => `(tactic| fail "none")
local macro_rules | `(tactic| walk_at "no such key 16") => `(tactic| fail "none")
local macro_rules | `(tactic| walk_at "no such key 17") => `(tactic| fail "none")
local macro_rules | `(tactic| walk_at "no such key 18") => `(tactic| fail "none")
local macro_rules | `(tactic| walk_at "no such key 19") => `(tactic| fail "none")
local macro_rules | `(tactic| walk_at "no such key 20") => `(tactic| fail "none")
local macro_rules | `(tactic| walk_at "no such key 21") => `(tactic| fail "none")
local macro_rules | `(tactic| walk_at "no such key 22") => `(tactic| fail "none")
local macro_rules | `(tactic| walk_at "no such key 23") => `(tactic| fail "none")
local macro_rules | `(tactic| walk_at "no such key 24") => `(tactic| fail "none")
local macro_rules | `(tactic| walk_at "no such key 25") => `(tactic| fail "none")
local macro_rules | `(tactic| walk_at "no such key 26") => `(tactic| fail "none")
local macro_rules | `(tactic| walk_at "no such key 27") => `(tactic| fail "none")
local macro_rules | `(tactic| walk_at "no such key 28") => `(tactic| fail "none")
local macro_rules | `(tactic| walk_at "no such key 29") => `(tactic| fail "none")
local macro_rules | `(tactic| walk_at "no such key 30") => `(tactic| fail "none")
set_option maxHeartbeats 0 in
theorem c_arm (y : Int) (t t1 t2 : Tok) (hy : 1 ≤ y ∧ y ≤ 2100000000) : Ctr 3 w p loose mean mg mb 87 [.int y t, .int 1 t1, .int 1 t2] (fun t => .float (H (7690006 + 4 * (365 * y + 1))) t) := by
  unfold Ctr
  k_fill
  intro dp un gd cn cs a ccd cl outer A₀ base h₀ L m news s Q E B F X N T hk hd hu hret
  refine wpAny_call ?_
  k_dflt (refine' code_def ?k1 ?k2 ?k3 ?k4 ?k5 ?kA ?kF ?kK ?k6 ?k7 ?k8 ?k9 ?kB ?_ ?c2 ?c3 ?c4 ?c5; (case kA => exact rfl); (case kF => exact rfl); (case kK => assumption); (case k1 => k_asm); (case k2 => k_asm); (case k3 => k_asm); (case k4 => k_asm); (case k5 => k_asm); (case k6 => k_is); (case k7 => k_is); (case k8 => ktr_room); (case k9 => first | exact BindsTo.of_eq rfl | exact binds_K (by k_in) rfl (by k_is) rfl rfl rfl); (case c5 => decide); (case kB => exact locs rfl); (case c2 => exact rfl); (case c3 => exact rfl); (case c4 => exact rfl); k_whole; intro g' L' h' FG' F' N' B' X' T'; (try dsimp only); (try k_lift B'); (try k_fold))
  k_steps
  all_goals exact ret_F hret (by omega) (by k_asm) (by first | k_asm | (refine' cb_drop ?cbN ?cbS; (case cbN => assumption); (case cbS => kcj_all)))
end
section
local macro_rules | `(tactic| walk_at "no such key 0") => `(tactic| fail "none")
local macro_rules | `(tactic| walk_at "no such key 1") => `(tactic| fail "none")
local macro_rules | `(tactic| walk_at "no such key 2") => `(tactic| fail "none")
local macro_rules | `(tactic| walk_at "no such key 3") => `(tactic| fail "none")
local macro_rules | `(tactic| walk_at "no such key 4") => `(tactic| fail "none")
local macro_rules | `(tactic| walk_at "no such key 5") => `(tactic| fail "none")
local macro_rules | `(tactic| walk_at "no such key 6") => `(tactic| fail "none")
local macro_rules | `(tactic| walk_at "no such key 7") => `(tactic| fail "none")
local macro_rules | `(tactic| walk_at "no such key 8") => `(tactic| fail "none")
local macro_rules | `(tactic| walk_at "no such key 9") => `(tactic| fail "none")
local macro_rules | `(tactic| walk_at "no such key 10") => `(tactic| fail "none")
local macro_rules | `(tactic| walk_at "no such key 11") => `(tactic| fail "none")
local macro_rules | `(tactic| walk_at "no such key 12") => `(tactic| fail "none")
local macro_rules | `(tactic| walk_at "no such key 13") => `(tactic| fail "none")
local macro_rules | `(tactic| walk_at "no such key 14") => `(tactic| fail "none")
local macro_rules | `(tactic| walk_at "no such key 15") => `(tactic| fail "none")
local macro_rules | `(tactic| walk_at "no such key 16") => `(tactic| fail "none")
local macro_rules | `(tactic| walk_at "no such key 17") => `(tactic| fail "none")
local macro_rules | `(tactic| walk_at "no such key 18") => `(tactic| fail "none")
local macro_rules | `(tactic| walk_at "no such key 19") => `(tactic| fail "none")
local macro_rules | `(tactic| walk_at "no such key 20") => `(tactic| fail "none")
local macro_rules | `(tactic| walk_at "no such key 21") => `(tactic| fail "none")
local macro_rules | `(tactic| walk_at "no such key 22") => `(tactic| fail "none")
local macro_rules | `(tactic| walk_at "no such key 23") => `(tactic| fail "none")
local macro_rules | `(tactic| walk_at "no such key 24") => `(tactic| fail "none")
local macro_rules | `(tactic| walk_at "no such key 25") => `(tactic| fail "none")
local macro_rules | `(tactic| walk_at "no such key 26") => `(tactic| fail "none")
local macro_rules | `(tactic| walk_at "no such key 27") => `(tactic| fail "none")
local macro_rules | `(tactic| walk_at "no such key 28") => `(tactic| fail "none")
local macro_rules | `(tactic| walk_at "no such key 29") => `(tactic| fail "none")
local macro_rules | `(tactic| walk_at "no such key 30") => `(tactic| fail "none")
local macro_rules | `(tactic| walk_at "no such key 31") => `(tactic| fail "none")
set_option maxHeartbeats 0 in
theorem c_sark (y : Int) (t t1 t2 t3 : Tok) (hy : 533 ≤ y ∧ y ≤ 2100000000) : Ctr 3 w p loose mean mg mb 87 [.int y t, .int 1 t1, .int 1 t2, .str (Str.ofString "sarkawag") t3] (fun t => .float (H (8468842 + 4 * (365 * (y - 533) + (y - 533) / 4 + 1))) t) := by
  unfold Ctr
  k_fill
  intro dp un gd cn cs a ccd cl outer A₀ base h₀ L m news s Q E B F X N T hk hd hu hret
  refine wpAny_call ?_
  k_dflt (refine' code_def ?k1 ?k2 ?k3 ?k4 ?k5 ?kA ?kF ?kK ?k6 ?k7 ?k8 ?k9 ?kB ?_ ?c2 ?c3 ?c4 ?c5; (case kA => exact rfl); (case kF => exact rfl); (case kK => assumption); (case k1 => k_asm); (case k2 => k_asm); (case k3 => k_asm); (case k4 => k_asm); (case k5 => k_asm); (case k6 => k_is); (case k7 => k_is); (case k8 => ktr_room); (case k9 => first | exact BindsTo.of_eq rfl | exact binds_K (by k_in) rfl (by k_is) rfl rfl rfl); (case c5 => decide); (case kB => exact locs rfl); (case c2 => exact rfl); (case c3 => exact rfl); (case c4 => exact rfl); k_whole; intro g' L' h' FG' F' N' B' X' T'; (try dsimp only); (try k_lift B'); (try k_fold))
  k_steps
  all_goals exact ret_F hret (by omega) (by k_asm) (by first | k_asm | (refine' cb_drop ?cbN ?cbS; (case cbN => assumption); (case cbS => kcj_all)))
end
section
local macro_rules | `(tactic| walk_at "no such key 0") => `(tactic| fail "none")
local macro_rules | `(tactic| walk_at "no such key 1") => `(tactic| fail "none")
local macro_rules | `(tactic| walk_at "no such key 2") => `(tactic| fail "none")
local macro_rules | `(tactic| walk_at "no such key 3") => `(tactic| fail "none")
local macro_rules | `(tactic| walk_at "no such key 4") => `(tactic| fail "none")
local macro_rules | `(tactic| walk_at "no such key 5") => `(tactic| fail "none")
local macro_rules | `(tactic| walk_at "no such key 6") => `(tactic| fail "none")
local macro_rules | `(tactic| walk_at "no such key 7") => `(tactic| fail "none")
local macro_rules | `(tactic| walk_at "no such key 8") => `(tactic| fail "none")
local macro_rules | `(tactic| walk_at "no such key 9") => `(tactic| fail "none")
local macro_rules | `(tactic| walk_at "no such key 10") => `(tactic| fail "none")
local macro_rules | `(tactic| walk_at "no such key 11") => `(tactic| fail "none")
local macro_rules | `(tactic| walk_at "no such key 12") => `(tactic| fail "none")
local macro_rules | `(tactic| walk_at "no such key 13") => `(tactic| fail "none")
local macro_rules | `(tactic| walk_at "no such key 14") => `(tactic| fail "none")
local macro_rules | `(tactic| walk_at "no such key 15") => `(tactic| fail "none")
local macro_rules | `(tactic| walk_at "no such key 16") => `(tactic| fail "none")
local macro_rules | `(tactic| walk_at "no such key 17") => `(tactic| fail "none")
local macro_rules | `(tactic| walk_at "no such key 18") => `(tactic| fail "none")
local macro_rules | `(tactic| walk_at "no such key 19") => `(tactic| fail "none")
local macro_rules | `(tactic| walk_at "no such key 20") => `(tactic| fail "none")
local macro_rules | `(tactic| walk_at "no such key 21") => `(tactic| fail "none")
local macro_rules | `(tactic| walk_at "no such key 22") => `(tactic| fail "none")
local macro_rules | `(tactic| walk_at "no such key 23") => `(tactic| fail "none")
local macro_rules | `(tactic| walk_at "no such key 24") => `(tactic| fail "none")
local macro_rules | `(tactic| walk_at "no such key 25") => `(tactic| fail "none")
local macro_rules | `(tactic| walk_at "no such key 26") => `(tactic| fail "none")
local macro_rules | `(tactic| walk_at "no such key 27") => `(tactic| fail "none")
local macro_rules | `(tactic| walk_at "no such key 28") => `(tactic| fail "none")
local macro_rules | `(tactic| walk_at "no such key 29") => `(tactic| fail "none")
local macro_rules | `(tactic| walk_at "no such key 30") => `(tactic| fail "none")
local macro_rules | `(tactic| walk_at "no such key 31") => `(tactic| fail "none")
local macro_rules | `(tactic| walk_at "no such key 32") => `(tactic| fail "none")
set_option maxHeartbeats 0 in
theorem c_fren (y : Int) (t t1 t2 t3 : Tok) (hy : 1 ≤ y ∧ y ≤ 2100000000) : Ctr 3 w p loose mean mg mb 117 [.int y t, .int 1 t1, .int 1 t2, .int 4 t3] (fun t => .float (H (9503358 + 4 * (y / 4 * 1461 + y % 4 * 365 - 365))) t) := by
  unfold Ctr
  k_fill
  intro dp un gd cn cs a ccd cl outer A₀ base h₀ L m news s Q E B F X N T hk hd hu hret
  refine wpAny_call ?_
  k_dflt (refine' code_def ?k1 ?k2 ?k3 ?k4 ?k5 ?kA ?kF ?kK ?k6 ?k7 ?k8 ?k9 ?kB ?_ ?c2 ?c3 ?c4 ?c5; (case kA => exact rfl); (case kF => exact rfl); (case kK => assumption); (case k1 => k_asm); (case k2 => k_asm); (case k3 => k_asm); (case k4 => k_asm); (case k5 => k_asm); (case k6 => k_is); (case k7 => k_is); (case k8 => ktr_room); (case k9 => first | exact BindsTo.of_eq rfl | exact binds_K (by k_in) rfl (by k_is) rfl rfl rfl); (case c5 => decide); (case kB => exact locs rfl); (case c2 => exact rfl); (case c3 => exact rfl); (case c4 => exact rfl); k_whole; intro g' L' h' FG' F' N' B' X' T'; (try dsimp only); (try k_lift B'); (try k_fold))
  k_steps
  all_goals exact ret_F hret (by omega) (by k_asm) (by first | k_asm | (refine' cb_drop ?cbN ?cbS; (case cbN => assumption); (case cbS => kcj_all)))
end
section
local macro_rules | `(tactic| walk_at "no such key 0") => `(tactic| fail "none")
local macro_rules | `(tactic| walk_at "no such key 1") => `(tactic| fail "none")
local macro_rules | `(tactic| walk_at "no such key 2") => `(tactic| fail "none")
local macro_rules | `(tactic| walk_at "no such key 3") => `(tactic| fail "none")
local macro_rules | `(tactic| walk_at "no such key 4") => `(tactic| fail "none")
local macro_rules | `(tactic| walk_at "no such key 5") => `(tactic| fail "none")
local macro_rules | `(tactic| walk_at "no such key 6") => `(tactic| fail "none")
local macro_rules | `(tactic| walk_at "no such key 7") => `(tactic| fail "none")
local macro_rules | `(tactic| walk_at "no such key 8") => `(tactic| fail "none")
local macro_rules | `(tactic| walk_at "no such key 9") => `(tactic| fail "none")
local macro_rules | `(tactic| walk_at "no such key 10") => `(tactic| fail "none")
local macro_rules | `(tactic| walk_at "no such key 11") => `(tactic| fail "none")
local macro_rules | `(tactic| walk_at "no such key 12") => `(tactic| fail "none")
local macro_rules | `(tactic| walk_at "no such key 13") => `(tactic| fail "none")
local macro_rules | `(tactic| walk_at "no such key 14") => `(tactic| fail "none")
local macro_rules | `(tactic| walk_at "no such key 15") => `(tactic| fail "none")
local macro_rules | `(tactic| walk_at "no such key 16") => `(tactic| fail "none")
local macro_rules | `(tactic| walk_at "no such key 17") => `(tactic| fail "none")
local macro_rules | `(tactic| walk_at "no such key 18") => `(tactic| fail "none")
local macro_rules | `(tactic| walk_at "no such key 19") => `(tactic| fail "none")
local macro_rules | `(tactic| walk_at "no such key 20") => `(tactic| fail "none")
local macro_rules | `(tactic| walk_at "no such key 21") => `(tactic| fail "none")
local macro_rules | `(tactic| walk_at "no such key 22") => `(tactic| fail "none")
local macro_rules | `(tactic| walk_at "no such key 23") => `(tactic| fail "none")
local macro_rules | `(tactic| walk_at "no such key 24") => `(tactic| fail "none")
local macro_rules | `(tactic| walk_at "no such key 25") => `(tactic| fail "none")
local macro_rules | `(tactic| walk_at "no such key 26") => `(tactic| fail "none")
local macro_rules | `(tactic| walk_at "no such key 27") => `(tactic| fail "none")
local macro_rules | `(tactic| walk_at "no such key 28") => `(tactic| fail "none")
local macro_rules | `(tactic| walk_at "no such key 29") => `(tactic| fail "none")
local macro_rules | `(tactic| walk_at "no such key 30") => `(tactic| fail "none")
local macro_rules | `(tactic| walk_at "no such key 31") => `(tactic| fail "none")
local macro_rules | `(tactic| walk_at "no such key 32") => `(tactic| fail "none")
local macro_rules | `(tactic| walk_at "no such key 33") => `(tactic| fail "none")
def within (n most : Int) : Int := if n % (2 * most + 1) ≤ most then n % (2 * most + 1) else n % (2 * most + 1) - 2 * most - 1
set_option maxHeartbeats 0 in
theorem c_within (n most : Int) (t t1 : Tok) (hm : 0 < most ∧ most ≤ 100000000000) : Ctr 1 w p loose mean mg mb 258 [.int n t, .int most t1] (fun t => .int (within n most) t) := by
  unfold Ctr
  k_fill
  intro dp un gd cn cs a ccd cl outer A₀ base h₀ L m news s Q E B F X N T hk hd hu hret
  refine wpAny_call ?_
  k_dflt (refine' code_def ?k1 ?k2 ?k3 ?k4 ?k5 ?kA ?kF ?kK ?k6 ?k7 ?k8 ?k9 ?kB ?_ ?c2 ?c3 ?c4 ?c5; (case kA => exact rfl); (case kF => exact rfl); (case kK => assumption); (case k1 => k_asm); (case k2 => k_asm); (case k3 => k_asm); (case k4 => k_asm); (case k5 => k_asm); (case k6 => k_is); (case k7 => k_is); (case k8 => ktr_room); (case k9 => first | exact BindsTo.of_eq rfl | exact binds_K (by k_in) rfl (by k_is) rfl rfl rfl); (case c5 => decide); (case kB => exact locs rfl); (case c2 => exact rfl); (case c3 => exact rfl); (case c4 => exact rfl); k_whole; intro g' L' h' FG' F' N' B' X' T'; (try dsimp only); (try k_lift B'); (try k_fold))
  k_steps
  all_goals exact ret_I hret (by (unfold within; simp only [fm (show (0 : Int) ≤ 2 * most + 1 by omega)] at *; generalize n % (2 * most + 1) = r at *; split <;> omega)) (by k_asm) (by first | k_asm | (refine' cb_drop ?cbN ?cbS; (case cbN => assumption); (case cbS => kcj_all)))
end
section
local macro_rules | `(tactic| walk_at "no such key 0") => `(tactic| fail "none")
local macro_rules | `(tactic| walk_at "no such key 1") => `(tactic| fail "none")
local macro_rules | `(tactic| walk_at "no such key 2") => `(tactic| fail "none")
local macro_rules | `(tactic| walk_at "no such key 3") => `(tactic| fail "none")
local macro_rules | `(tactic| walk_at "no such key 4") => `(tactic| fail "none")
local macro_rules | `(tactic| walk_at "no such key 5") => `(tactic| fail "none")
local macro_rules | `(tactic| walk_at "no such key 6") => `(tactic| fail "none")
local macro_rules | `(tactic| walk_at "no such key 7") => `(tactic| fail "none")
local macro_rules | `(tactic| walk_at "no such key 8") => `(tactic| fail "none")
local macro_rules | `(tactic| walk_at "no such key 9") => `(tactic| fail "none")
local macro_rules | `(tactic| walk_at "no such key 10") => `(tactic| fail "none")
local macro_rules | `(tactic| walk_at "no such key 11") => `(tactic| fail "none")
local macro_rules | `(tactic| walk_at "no such key 12") => `(tactic| fail "none")
local macro_rules | `(tactic| walk_at "no such key 13") => `(tactic| fail "none")
local macro_rules | `(tactic| walk_at "no such key 14") => `(tactic| fail "none")
local macro_rules | `(tactic| walk_at "no such key 15") => `(tactic| fail "none")
local macro_rules | `(tactic| walk_at "no such key 16") => `(tactic| fail "none")
local macro_rules | `(tactic| walk_at "no such key 17") => `(tactic| fail "none")
local macro_rules | `(tactic| walk_at "no such key 18") => `(tactic| fail "none")
local macro_rules | `(tactic| walk_at "no such key 19") => `(tactic| fail "none")
local macro_rules | `(tactic| walk_at "no such key 20") => `(tactic| fail "none")
local macro_rules | `(tactic| walk_at "no such key 21") => `(tactic| fail "none")
local macro_rules | `(tactic| walk_at "no such key 22") => `(tactic| fail "none")
local macro_rules | `(tactic| walk_at "no such key 23") => `(tactic| fail "none")
local macro_rules | `(tactic| walk_at "no such key 24") => `(tactic| fail "none")
local macro_rules | `(tactic| walk_at "no such key 25") => `(tactic| fail "none")
local macro_rules | `(tactic| walk_at "no such key 26") => `(tactic| fail "none")
local macro_rules | `(tactic| walk_at "no such key 27") => `(tactic| fail "none")
local macro_rules | `(tactic| walk_at "no such key 28") => `(tactic| fail "none")
local macro_rules | `(tactic| walk_at "no such key 29") => `(tactic| fail "none")
local macro_rules | `(tactic| walk_at "no such key 30") => `(tactic| fail "none")
local macro_rules | `(tactic| walk_at "no such key 31") => `(tactic| fail "none")
local macro_rules | `(tactic| walk_at "no such key 32") => `(tactic| fail "none")
local macro_rules | `(tactic| walk_at "no such key 33") => `(tactic| fail "none")
local macro_rules | `(tactic| walk_at "no such key 34") => `(tactic| fail "none")
theorem mul_bnd {a b A B : Int} (ha : 0 ≤ a ∧ a ≤ A) (hb : -B ≤ b ∧ b ≤ B) : -(A * B) ≤ a * b ∧ a * b ≤ A * B := by
  have h1 : a * b ≤ a * B := Int.mul_le_mul_of_nonneg_left hb.2 ha.1
  have h2 : a * B ≤ A * B := Int.mul_le_mul_of_nonneg_right ha.2 (by omega)
  have h3 : a * -B ≤ a * b := Int.mul_le_mul_of_nonneg_left hb.1 ha.1
  rw [Int.mul_neg] at h3
  omega
set_option maxHeartbeats 0 in
theorem c_near (k y c cd mo : Int) (t t1 t2 t3 t4 : Tok) (hkq : -3000000000000 ≤ k ∧ k ≤ 3000000000000) (hy : 0 ≤ y ∧ y ≤ 1000000000) (hc : 0 < c ∧ c ≤ 400) (hcd : 0 < cd ∧ cd ≤ 146097) (hmo : 0 ≤ mo ∧ mo ≤ 879) (hm : (c * k - 4 * (cd * y)).natAbs ≤ 4 * mo) : Ctr 1 w p loose mean mg mb 265 [.float (H k) t, .int y t1, .int c t2, .int cd t3, .int mo t4] (fun _ => .bool (true)) := by
  unfold Ctr
  k_fill
  intro dp un gd cn cs a ccd cl outer A₀ base h₀ L m news s Q E B F X N T hk hd hu hret
  have b1 := mul_bnd (a := c) (b := k) (A := 400) (B := 3000000000000) (by omega) hkq
  have b2 := mul_bnd (a := cd) (b := y) (A := 146097) (B := 1000000000) (by omega) (by omega)
  refine wpAny_call ?_
  k_dflt (refine' code_def ?k1 ?k2 ?k3 ?k4 ?k5 ?kA ?kF ?kK ?k6 ?k7 ?k8 ?k9 ?kB ?_ ?c2 ?c3 ?c4 ?c5; (case kA => exact rfl); (case kF => exact rfl); (case kK => assumption); (case k1 => k_asm); (case k2 => k_asm); (case k3 => k_asm); (case k4 => k_asm); (case k5 => k_asm); (case k6 => k_is); (case k7 => k_is); (case k8 => ktr_room); (case k9 => first | exact BindsTo.of_eq rfl | exact binds_K (by k_in) rfl (by k_is) rfl rfl rfl); (case c5 => decide); (case kB => exact locs rfl); (case c2 => exact rfl); (case c3 => exact rfl); (case c4 => exact rfl); k_whole; intro g' L' h' FG' F' N' B' X' T'; (try dsimp only); (try k_lift B'); (try k_fold))
  k_steps
  all_goals exact ret_B hret (by (simp only [decide_eq_true_eq]; omega)) (by k_asm) (by first | k_asm | (refine' cb_drop ?cbN ?cbS; (case cbN => assumption); (case cbS => kcj_all)))
end
section
local macro_rules | `(tactic| walk_at "no such key 0") => `(tactic| fail "none")
local macro_rules | `(tactic| walk_at "no such key 1") => `(tactic| fail "none")
local macro_rules | `(tactic| walk_at "no such key 2") => `(tactic| fail "none")
local macro_rules | `(tactic| walk_at "no such key 3") => `(tactic| fail "none")
local macro_rules | `(tactic| walk_at "no such key 4") => `(tactic| fail "none")
local macro_rules | `(tactic| walk_at "no such key 5") => `(tactic| fail "none")
local macro_rules | `(tactic| walk_at "no such key 6") => `(tactic| fail "none")
local macro_rules | `(tactic| walk_at "no such key 7") => `(tactic| fail "none")
local macro_rules | `(tactic| walk_at "no such key 8") => `(tactic| fail "none")
local macro_rules | `(tactic| walk_at "no such key 9") => `(tactic| fail "none")
local macro_rules | `(tactic| walk_at "no such key 10") => `(tactic| fail "none")
local macro_rules | `(tactic| walk_at "no such key 11") => `(tactic| fail "none")
local macro_rules | `(tactic| walk_at "no such key 12") => `(tactic| fail "none")
local macro_rules | `(tactic| walk_at "no such key 13") => `(tactic| fail "none")
local macro_rules | `(tactic| walk_at "no such key 14") => `(tactic| fail "none")
local macro_rules | `(tactic| walk_at "no such key 15") => `(tactic| fail "none")
local macro_rules | `(tactic| walk_at "no such key 16") => `(tactic| fail "none")
local macro_rules | `(tactic| walk_at "no such key 17") => `(tactic| fail "none")
local macro_rules | `(tactic| walk_at "no such key 18") => `(tactic| fail "none")
local macro_rules | `(tactic| walk_at "no such key 19") => `(tactic| fail "none")
local macro_rules | `(tactic| walk_at "no such key 20") => `(tactic| fail "none")
local macro_rules | `(tactic| walk_at "no such key 21") => `(tactic| fail "none")
local macro_rules | `(tactic| walk_at "no such key 22") => `(tactic| fail "none")
local macro_rules | `(tactic| walk_at "no such key 23") => `(tactic| fail "none")
local macro_rules | `(tactic| walk_at "no such key 24") => `(tactic| fail "none")
local macro_rules | `(tactic| walk_at "no such key 25") => `(tactic| fail "none")
local macro_rules | `(tactic| walk_at "no such key 26") => `(tactic| fail "none")
local macro_rules | `(tactic| walk_at "no such key 27") => `(tactic| fail "none")
local macro_rules | `(tactic| walk_at "no such key 28") => `(tactic| fail "none")
local macro_rules | `(tactic| walk_at "no such key 29") => `(tactic| fail "none")
local macro_rules | `(tactic| walk_at "no such key 30") => `(tactic| fail "none")
local macro_rules | `(tactic| walk_at "no such key 31") => `(tactic| fail "none")
local macro_rules | `(tactic| walk_at "no such key 32") => `(tactic| fail "none")
local macro_rules | `(tactic| walk_at "no such key 33") => `(tactic| fail "none")
local macro_rules | `(tactic| walk_at "no such key 34") => `(tactic| fail "none")
local macro_rules | `(tactic| walk_at "no such key 35") => `(tactic| fail "none")
set_option maxHeartbeats 0 in
theorem c_begun0 (x y d : Int) (t t1 t2 t3 t4 : Tok) (hx : -3000000000 ≤ x ∧ x ≤ 3000000000) (hy : -3000000000 ≤ y ∧ y ≤ 3000000000) (hd : 0 ≤ d ∧ d ≤ 100000000000) (hm : (10631 * (y - x) - 30 * d).natAbs < 10631) : Ctr 1 w p loose mean mg mb 282 [.int x t, .int y t1, .int d t2, .int 30 t3, .int 10631 t4] (fun _ => .bool (true)) := by
  unfold Ctr
  k_fill
  intro dp un gd cn cs a ccd cl outer A₀ base h₀ L m news s Q E B F X N T hk hd hu hret
  refine wpAny_call ?_
  k_dflt (refine' code_def ?k1 ?k2 ?k3 ?k4 ?k5 ?kA ?kF ?kK ?k6 ?k7 ?k8 ?k9 ?kB ?_ ?c2 ?c3 ?c4 ?c5; (case kA => exact rfl); (case kF => exact rfl); (case kK => assumption); (case k1 => k_asm); (case k2 => k_asm); (case k3 => k_asm); (case k4 => k_asm); (case k5 => k_asm); (case k6 => k_is); (case k7 => k_is); (case k8 => ktr_room); (case k9 => first | exact BindsTo.of_eq rfl | exact binds_K (by k_in) rfl (by k_is) rfl rfl rfl); (case c5 => decide); (case kB => exact locs rfl); (case c2 => exact rfl); (case c3 => exact rfl); (case c4 => exact rfl); k_whole; intro g' L' h' FG' F' N' B' X' T'; (try dsimp only); (try k_lift B'); (try k_fold))
  k_steps
  all_goals exact ret_B hret (by (simp only [decide_eq_true_eq]; omega)) (by k_asm) (by first | k_asm | (refine' cb_drop ?cbN ?cbS; (case cbN => assumption); (case cbS => kcj_all)))
set_option maxHeartbeats 0 in
theorem c_begun1 (x y d : Int) (t t1 t2 t3 t4 : Tok) (hx : -3000000000 ≤ x ∧ x ≤ 3000000000) (hy : -3000000000 ≤ y ∧ y ≤ 3000000000) (hd : 0 ≤ d ∧ d ≤ 100000000000) (hm : (1461 * (y - x) - 4 * d).natAbs < 1461) : Ctr 1 w p loose mean mg mb 282 [.int x t, .int y t1, .int d t2, .int 4 t3, .int 1461 t4] (fun _ => .bool (true)) := by
  unfold Ctr
  k_fill
  intro dp un gd cn cs a ccd cl outer A₀ base h₀ L m news s Q E B F X N T hk hd hu hret
  refine wpAny_call ?_
  k_dflt (refine' code_def ?k1 ?k2 ?k3 ?k4 ?k5 ?kA ?kF ?kK ?k6 ?k7 ?k8 ?k9 ?kB ?_ ?c2 ?c3 ?c4 ?c5; (case kA => exact rfl); (case kF => exact rfl); (case kK => assumption); (case k1 => k_asm); (case k2 => k_asm); (case k3 => k_asm); (case k4 => k_asm); (case k5 => k_asm); (case k6 => k_is); (case k7 => k_is); (case k8 => ktr_room); (case k9 => first | exact BindsTo.of_eq rfl | exact binds_K (by k_in) rfl (by k_is) rfl rfl rfl); (case c5 => decide); (case kB => exact locs rfl); (case c2 => exact rfl); (case c3 => exact rfl); (case c4 => exact rfl); k_whole; intro g' L' h' FG' F' N' B' X' T'; (try dsimp only); (try k_lift B'); (try k_fold))
  k_steps
  all_goals exact ret_B hret (by (simp only [decide_eq_true_eq]; omega)) (by k_asm) (by first | k_asm | (refine' cb_drop ?cbN ?cbS; (case cbN => assumption); (case cbS => kcj_all)))
end
section
local macro_rules | `(tactic| walk_at "no such key 0") => `(tactic| fail "none")
local macro_rules | `(tactic| walk_at "no such key 1") => `(tactic| fail "none")
local macro_rules | `(tactic| walk_at "no such key 2") => `(tactic| fail "none")
local macro_rules | `(tactic| walk_at "no such key 3") => `(tactic| fail "none")
local macro_rules | `(tactic| walk_at "no such key 4") => `(tactic| fail "none")
local macro_rules | `(tactic| walk_at "no such key 5") => `(tactic| fail "none")
local macro_rules | `(tactic| walk_at "no such key 6") => `(tactic| fail "none")
local macro_rules | `(tactic| walk_at "no such key 7") => `(tactic| fail "none")
local macro_rules | `(tactic| walk_at "no such key 8") => `(tactic| fail "none")
local macro_rules | `(tactic| walk_at "no such key 9") => `(tactic| fail "none")
local macro_rules | `(tactic| walk_at "no such key 10") => `(tactic| fail "none")
local macro_rules | `(tactic| walk_at "no such key 11") => `(tactic| fail "none")
local macro_rules | `(tactic| walk_at "no such key 12") => `(tactic| fail "none")
local macro_rules | `(tactic| walk_at "no such key 13") => `(tactic| fail "none")
local macro_rules | `(tactic| walk_at "no such key 14") => `(tactic| fail "none")
local macro_rules | `(tactic| walk_at "no such key 15") => `(tactic| fail "none")
local macro_rules | `(tactic| walk_at "no such key 16") => `(tactic| fail "none")
local macro_rules | `(tactic| walk_at "no such key 17") => `(tactic| fail "none")
local macro_rules | `(tactic| walk_at "no such key 18") => `(tactic| fail "none")
local macro_rules | `(tactic| walk_at "no such key 19") => `(tactic| fail "none")
local macro_rules | `(tactic| walk_at "no such key 20") => `(tactic| fail "none")
local macro_rules | `(tactic| walk_at "no such key 21") => `(tactic| fail "none")
local macro_rules | `(tactic| walk_at "no such key 22") => `(tactic| fail "none")
local macro_rules | `(tactic| walk_at "no such key 23") => `(tactic| fail "none")
local macro_rules | `(tactic| walk_at "no such key 24") => `(tactic| fail "none")
local macro_rules | `(tactic| walk_at "no such key 25") => `(tactic| fail "none")
local macro_rules | `(tactic| walk_at "no such key 26") => `(tactic| fail "none")
local macro_rules | `(tactic| walk_at "no such key 27") => `(tactic| fail "none")
local macro_rules | `(tactic| walk_at "no such key 28") => `(tactic| fail "none")
local macro_rules | `(tactic| walk_at "no such key 29") => `(tactic| fail "none")
local macro_rules | `(tactic| walk_at "no such key 30") => `(tactic| fail "none")
local macro_rules | `(tactic| walk_at "no such key 31") => `(tactic| fail "none")
local macro_rules | `(tactic| walk_at "no such key 32") => `(tactic| fail "none")
local macro_rules | `(tactic| walk_at "no such key 33") => `(tactic| fail "none")
local macro_rules | `(tactic| walk_at "no such key 34") => `(tactic| fail "none")
local macro_rules | `(tactic| walk_at "no such key 35") => `(tactic| fail "none")
local macro_rules | `(tactic| walk_at "no such key 36") => `(tactic| fail "none")
/-- the Hebrew text's whole days of the molad, its first and its second delay -/
def d0 (y : Int) : Int := (235 * y - 234) / 19 * 29 + (12084 + 13753 * ((235 * y - 234) / 19)) / 25920
def d1 (y : Int) : Int := if 3 * (d0 y + 1) % 7 < 3 then d0 y + 1 else d0 y
def d2 (y : Int) : Int := if d1 (y + 1) - d1 y = 356 then 2 else if d1 y - d1 (y - 1) = 382 then 1 else 0
def ym (y : Int) : Int := if (y * 7 + 1) % 19 < 7 then 13 else 12
theorem d1_bnd {y : Int} (h : -1 ≤ y ∧ y ≤ 1100000000) : -10000 ≤ d1 y ∧ d1 y ≤ 500000000000 := by
  unfold d1 d0
  split <;> omega
theorem d1_low {y : Int} (h : 0 ≤ y ∧ y ≤ 1100000000) : -500 ≤ d1 y := by
  unfold d1 d0
  split <;> omega
theorem d2_bnd {y : Int} : 0 ≤ d2 y ∧ d2 y ≤ 2 := by
  unfold d2
  split
  · omega
  · split <;> omega
set_option maxHeartbeats 0 in
theorem c_hleap (y : Int) (t : Tok) : Ctr 1 w p loose mean mg mb 131 [.int y t] (fun _ => .bool (decide ((y * 7 + 1) % 19 < 7))) := by
  unfold Ctr
  k_fill
  intro dp un gd cn cs a ccd cl outer A₀ base h₀ L m news s Q E B F X N T hk hd hu hret
  refine wpAny_call ?_
  k_dflt (refine' code_def ?k1 ?k2 ?k3 ?k4 ?k5 ?kA ?kF ?kK ?k6 ?k7 ?k8 ?k9 ?kB ?_ ?c2 ?c3 ?c4 ?c5; (case kA => exact rfl); (case kF => exact rfl); (case kK => assumption); (case k1 => k_asm); (case k2 => k_asm); (case k3 => k_asm); (case k4 => k_asm); (case k5 => k_asm); (case k6 => k_is); (case k7 => k_is); (case k8 => ktr_room); (case k9 => first | exact BindsTo.of_eq rfl | exact binds_K (by k_in) rfl (by k_is) rfl rfl rfl); (case c5 => decide); (case kB => exact locs rfl); (case c2 => exact rfl); (case c3 => exact rfl); (case c4 => exact rfl); k_whole; intro g' L' h' FG' F' N' B' X' T'; (try dsimp only); (try k_lift B'); (try k_fold))
  k_steps
  all_goals exact ret_B hret (by simp only [fm (show (0 : Int) ≤ 19 by decide)]) (by k_asm) (by first | k_asm | (refine' cb_drop ?cbN ?cbS; (case cbN => assumption); (case cbS => kcj_all)))
end
section
local macro_rules | `(tactic| walk_at "no such key 0") => `(tactic| fail "none")
local macro_rules | `(tactic| walk_at "no such key 1") => `(tactic| fail "none")
local macro_rules | `(tactic| walk_at "no such key 2") => `(tactic| fail "none")
local macro_rules | `(tactic| walk_at "no such key 3") => `(tactic| fail "none")
local macro_rules | `(tactic| walk_at "no such key 4") => `(tactic| fail "none")
local macro_rules | `(tactic| walk_at "no such key 5") => `(tactic| fail "none")
local macro_rules | `(tactic| walk_at "no such key 6") => `(tactic| fail "none")
local macro_rules | `(tactic| walk_at "no such key 7") => `(tactic| fail "none")
local macro_rules | `(tactic| walk_at "no such key 8") => `(tactic| fail "none")
local macro_rules | `(tactic| walk_at "no such key 9") => `(tactic| fail "none")
local macro_rules | `(tactic| walk_at "no such key 10") => `(tactic| fail "none")
local macro_rules | `(tactic| walk_at "no such key 11") => `(tactic| fail "none")
local macro_rules | `(tactic| walk_at "no such key 12") => `(tactic| fail "none")
local macro_rules | `(tactic| walk_at "no such key 13") => `(tactic| fail "none")
local macro_rules | `(tactic| walk_at "no such key 14") => `(tactic| fail "none")
local macro_rules | `(tactic| walk_at "no such key 15") => `(tactic| fail "none")
local macro_rules | `(tactic| walk_at "no such key 16") => `(tactic| fail "none")
local macro_rules | `(tactic| walk_at "no such key 17") => `(tactic| fail "none")
local macro_rules | `(tactic| walk_at "no such key 18") => `(tactic| fail "none")
local macro_rules | `(tactic| walk_at "no such key 19") => `(tactic| fail "none")
local macro_rules | `(tactic| walk_at "no such key 20") => `(tactic| fail "none")
local macro_rules | `(tactic| walk_at "no such key 21") => `(tactic| fail "none")
local macro_rules | `(tactic| walk_at "no such key 22") => `(tactic| fail "none")
local macro_rules | `(tactic| walk_at "no such key 23") => `(tactic| fail "none")
local macro_rules | `(tactic| walk_at "no such key 24") => `(tactic| fail "none")
local macro_rules | `(tactic| walk_at "no such key 25") => `(tactic| fail "none")
local macro_rules | `(tactic| walk_at "no such key 26") => `(tactic| fail "none")
local macro_rules | `(tactic| walk_at "no such key 27") => `(tactic| fail "none")
local macro_rules | `(tactic| walk_at "no such key 28") => `(tactic| fail "none")
local macro_rules | `(tactic| walk_at "no such key 29") => `(tactic| fail "none")
local macro_rules | `(tactic| walk_at "no such key 30") => `(tactic| fail "none")
local macro_rules | `(tactic| walk_at "no such key 31") => `(tactic| fail "none")
local macro_rules | `(tactic| walk_at "no such key 32") => `(tactic| fail "none")
local macro_rules | `(tactic| walk_at "no such key 33") => `(tactic| fail "none")
local macro_rules | `(tactic| walk_at "no such key 34") => `(tactic| fail "none")
local macro_rules | `(tactic| walk_at "no such key 35") => `(tactic| fail "none")
local macro_rules | `(tactic| walk_at "no such key 36") => `(tactic| fail "none")
local macro_rules | `(tactic| walk_at "call ref") => `(tactic| (k_here; k_dflt (refine' use (c_hleap _ _) ?k1 ?k2 ?k3 ?k4 ?k5 ?kK ?kd ?ku ?_; (case k1 => k_asm); (case k2 => k_asm); (case k3 => k_asm); (case k4 => k_asm); (case k5 => k_asm); (case kK => first | exact rfl | assumption); (case kd => first | (refine' room1 ?a ?b; (case a => assumption); (case b => decide)) | ktr_room); (case ku => first | (refine' unit1 ?a ?b; (case a => assumption); (case b => decide)) | ktr_units); intro t9 h9 tk9 F9 N9; (try dsimp only); (try k_sweep); (try k_fold))))
set_option maxHeartbeats 0 in
theorem c_ym (y : Int) (t : Tok) : Ctr 2 w p loose mean mg mb 138 [.int y t] (fun t => .int (ym y) t) := by
  unfold Ctr
  k_fill
  intro dp un gd cn cs a ccd cl outer A₀ base h₀ L m news s Q E B F X N T hk hd hu hret
  refine wpAny_call ?_
  k_dflt (refine' code_def ?k1 ?k2 ?k3 ?k4 ?k5 ?kA ?kF ?kK ?k6 ?k7 ?k8 ?k9 ?kB ?_ ?c2 ?c3 ?c4 ?c5; (case kA => exact rfl); (case kF => exact rfl); (case kK => assumption); (case k1 => k_asm); (case k2 => k_asm); (case k3 => k_asm); (case k4 => k_asm); (case k5 => k_asm); (case k6 => k_is); (case k7 => k_is); (case k8 => ktr_room); (case k9 => first | exact BindsTo.of_eq rfl | exact binds_K (by k_in) rfl (by k_is) rfl rfl rfl); (case c5 => decide); (case kB => exact locs rfl); (case c2 => exact rfl); (case c3 => exact rfl); (case c4 => exact rfl); k_whole; intro g' L' h' FG' F' N' B' X' T'; (try dsimp only); (try k_lift B'); (try k_fold))
  k_steps
  all_goals exact ret_I hret (by (unfold ym; split <;> simp_all <;> omega)) (by k_asm) (by first | k_asm | (refine' cb_drop ?cbN ?cbS; (case cbN => assumption); (case cbS => kcj_all)))
end
section
local macro_rules | `(tactic| walk_at "no such key 0") => `(tactic| fail "none")
local macro_rules | `(tactic| walk_at "no such key 1") => `(tactic| fail "none")
local macro_rules | `(tactic| walk_at "no such key 2") => `(tactic| fail "none")
local macro_rules | `(tactic| walk_at "no such key 3") => `(tactic| fail "none")
local macro_rules | `(tactic| walk_at "no such key 4") => `(tactic| fail "none")
local macro_rules | `(tactic| walk_at "no such key 5") => `(tactic| fail "none")
local macro_rules | `(tactic| walk_at "no such key 6") => `(tactic| fail "none")
local macro_rules | `(tactic| walk_at "no such key 7") => `(tactic| fail "none")
local macro_rules | `(tactic| walk_at "no such key 8") => `(tactic| fail "none")
local macro_rules | `(tactic| walk_at "no such key 9") => `(tactic| fail "none")
local macro_rules | `(tactic| walk_at "no such key 10") => `(tactic| fail "none")
local macro_rules | `(tactic| walk_at "no such key 11") => `(tactic| fail "none")
local macro_rules | `(tactic| walk_at "no such key 12") => `(tactic| fail "none")
local macro_rules | `(tactic| walk_at "no such key 13") => `(tactic| fail "none")
local macro_rules | `(tactic| walk_at "no such key 14") => `(tactic| fail "none")
local macro_rules | `(tactic| walk_at "no such key 15") => `(tactic| fail "none")
local macro_rules | `(tactic| walk_at "no such key 16") => `(tactic| fail "none")
local macro_rules | `(tactic| walk_at "no such key 17") => `(tactic| fail "none")
local macro_rules | `(tactic| walk_at "no such key 18") => `(tactic| fail "none")
local macro_rules | `(tactic| walk_at "no such key 19") => `(tactic| fail "none")
local macro_rules | `(tactic| walk_at "no such key 20") => `(tactic| fail "none")
local macro_rules | `(tactic| walk_at "no such key 21") => `(tactic| fail "none")
local macro_rules | `(tactic| walk_at "no such key 22") => `(tactic| fail "none")
local macro_rules | `(tactic| walk_at "no such key 23") => `(tactic| fail "none")
local macro_rules | `(tactic| walk_at "no such key 24") => `(tactic| fail "none")
local macro_rules | `(tactic| walk_at "no such key 25") => `(tactic| fail "none")
local macro_rules | `(tactic| walk_at "no such key 26") => `(tactic| fail "none")
local macro_rules | `(tactic| walk_at "no such key 27") => `(tactic| fail "none")
local macro_rules | `(tactic| walk_at "no such key 28") => `(tactic| fail "none")
local macro_rules | `(tactic| walk_at "no such key 29") => `(tactic| fail "none")
local macro_rules | `(tactic| walk_at "no such key 30") => `(tactic| fail "none")
local macro_rules | `(tactic| walk_at "no such key 31") => `(tactic| fail "none")
local macro_rules | `(tactic| walk_at "no such key 32") => `(tactic| fail "none")
local macro_rules | `(tactic| walk_at "no such key 33") => `(tactic| fail "none")
local macro_rules | `(tactic| walk_at "no such key 34") => `(tactic| fail "none")
local macro_rules | `(tactic| walk_at "no such key 35") => `(tactic| fail "none")
local macro_rules | `(tactic| walk_at "no such key 36") => `(tactic| fail "none")
local macro_rules | `(tactic| walk_at "no such key 37") => `(tactic| fail "none")
local macro_rules | `(tactic| walk_at "no such key 38") => `(tactic| fail "none")
set_option maxHeartbeats 0 in
theorem c_d1 (y : Int) (t : Tok) (hy : -1 ≤ y ∧ y ≤ 1100000000) : Ctr 1 w p loose mean mg mb 145 [.int y t] (fun t => .int (d1 y) t) := by
  unfold Ctr
  k_fill
  intro dp un gd cn cs a ccd cl outer A₀ base h₀ L m news s Q E B F X N T hk hd hu hret
  refine wpAny_call ?_
  k_dflt (refine' code_def ?k1 ?k2 ?k3 ?k4 ?k5 ?kA ?kF ?kK ?k6 ?k7 ?k8 ?k9 ?kB ?_ ?c2 ?c3 ?c4 ?c5; (case kA => exact rfl); (case kF => exact rfl); (case kK => assumption); (case k1 => k_asm); (case k2 => k_asm); (case k3 => k_asm); (case k4 => k_asm); (case k5 => k_asm); (case k6 => k_is); (case k7 => k_is); (case k8 => ktr_room); (case k9 => first | exact BindsTo.of_eq rfl | exact binds_K (by k_in) rfl (by k_is) rfl rfl rfl); (case c5 => decide); (case kB => exact locs rfl); (case c2 => exact rfl); (case c3 => exact rfl); (case c4 => exact rfl); k_whole; intro g' L' h' FG' F' N' B' X' T'; (try dsimp only); (try k_lift B'); (try k_fold))
  k_steps
  all_goals exact ret_I hret (by (simp only [fm (show (0 : Int) ≤ 7 by decide)] at *; unfold d1 d0; split <;> omega)) (by k_asm) (by first | k_asm | (refine' cb_drop ?cbN ?cbS; (case cbN => assumption); (case cbS => kcj_all)))
end
section
local macro_rules | `(tactic| walk_at "no such key 0") => `(tactic| fail "none")
local macro_rules | `(tactic| walk_at "no such key 1") => `(tactic| fail "none")
local macro_rules | `(tactic| walk_at "no such key 2") => `(tactic| fail "none")
local macro_rules | `(tactic| walk_at "no such key 3") => `(tactic| fail "none")
local macro_rules | `(tactic| walk_at "no such key 4") => `(tactic| fail "none")
local macro_rules | `(tactic| walk_at "no such key 5") => `(tactic| fail "none")
local macro_rules | `(tactic| walk_at "no such key 6") => `(tactic| fail "none")
local macro_rules | `(tactic| walk_at "no such key 7") => `(tactic| fail "none")
local macro_rules | `(tactic| walk_at "no such key 8") => `(tactic| fail "none")
local macro_rules | `(tactic| walk_at "no such key 9") => `(tactic| fail "none")
local macro_rules | `(tactic| walk_at "no such key 10") => `(tactic| fail "none")
local macro_rules | `(tactic| walk_at "no such key 11") => `(tactic| fail "none")
local macro_rules | `(tactic| walk_at "no such key 12") => `(tactic| fail "none")
local macro_rules | `(tactic| walk_at "no such key 13") => `(tactic| fail "none")
local macro_rules | `(tactic| walk_at "no such key 14") => `(tactic| fail "none")
local macro_rules | `(tactic| walk_at "no such key 15") => `(tactic| fail "none")
local macro_rules | `(tactic| walk_at "no such key 16") => `(tactic| fail "none")
local macro_rules | `(tactic| walk_at "no such key 17") => `(tactic| fail "none")
local macro_rules | `(tactic| walk_at "no such key 18") => `(tactic| fail "none")
local macro_rules | `(tactic| walk_at "no such key 19") => `(tactic| fail "none")
local macro_rules | `(tactic| walk_at "no such key 20") => `(tactic| fail "none")
local macro_rules | `(tactic| walk_at "no such key 21") => `(tactic| fail "none")
local macro_rules | `(tactic| walk_at "no such key 22") => `(tactic| fail "none")
local macro_rules | `(tactic| walk_at "no such key 23") => `(tactic| fail "none")
local macro_rules | `(tactic| walk_at "no such key 24") => `(tactic| fail "none")
local macro_rules | `(tactic| walk_at "no such key 25") => `(tactic| fail "none")
local macro_rules | `(tactic| walk_at "no such key 26") => `(tactic| fail "none")
local macro_rules | `(tactic| walk_at "no such key 27") => `(tactic| fail "none")
local macro_rules | `(tactic| walk_at "no such key 28") => `(tactic| fail "none")
local macro_rules | `(tactic| walk_at "no such key 29") => `(tactic| fail "none")
local macro_rules | `(tactic| walk_at "no such key 30") => `(tactic| fail "none")
local macro_rules | `(tactic| walk_at "no such key 31") => `(tactic| fail "none")
local macro_rules | `(tactic| walk_at "no such key 32") => `(tactic| fail "none")
local macro_rules | `(tactic| walk_at "no such key 33") => `(tactic| fail "none")
local macro_rules | `(tactic| walk_at "no such key 34") => `(tactic| fail "none")
local macro_rules | `(tactic| walk_at "no such key 35") => `(tactic| fail "none")
local macro_rules | `(tactic| walk_at "no such key 36") => `(tactic| fail "none")
local macro_rules | `(tactic| walk_at "no such key 37") => `(tactic| fail "none")
local macro_rules | `(tactic| walk_at "no such key 38") => `(tactic| fail "none")
local macro_rules | `(tactic| walk_at "call ref") => `(tactic| (k_here; k_dflt (refine' use (c_d1 _ _ ?h0) ?k1 ?k2 ?k3 ?k4 ?k5 ?kK ?kd ?ku ?_; (case k1 => k_asm); (case k2 => k_asm); (case k3 => k_asm); (case k4 => k_asm); (case k5 => k_asm); (case kK => first | exact rfl | assumption); (case h0 => tb_rel); (case kd => first | (refine' room1 ?a ?b; (case a => assumption); (case b => decide)) | ktr_room); (case ku => first | (refine' unit1 ?a ?b; (case a => assumption); (case b => decide)) | ktr_units); intro t9 h9 tk9 F9 N9; (try dsimp only); (try k_sweep); (try k_fold))))
set_option maxHeartbeats 0 in
theorem c_d2 (y : Int) (t : Tok) (hy : 0 ≤ y ∧ y ≤ 1000001000) : Ctr 2 w p loose mean mg mb 152 [.int y t] (fun t => .int (d2 y) t) := by
  unfold Ctr
  k_fill
  intro dp un gd cn cs a ccd cl outer A₀ base h₀ L m news s Q E B F X N T hk hd hu hret
  have b0 := d1_bnd (y := y) (by omega)
  have b1 := d1_bnd (y := y + 1) (by omega)
  have b2 := d1_bnd (y := y - 1) (by omega)
  refine wpAny_call ?_
  k_dflt (refine' code_def ?k1 ?k2 ?k3 ?k4 ?k5 ?kA ?kF ?kK ?k6 ?k7 ?k8 ?k9 ?kB ?_ ?c2 ?c3 ?c4 ?c5; (case kA => exact rfl); (case kF => exact rfl); (case kK => assumption); (case k1 => k_asm); (case k2 => k_asm); (case k3 => k_asm); (case k4 => k_asm); (case k5 => k_asm); (case k6 => k_is); (case k7 => k_is); (case k8 => ktr_room); (case k9 => first | exact BindsTo.of_eq rfl | exact binds_K (by k_in) rfl (by k_is) rfl rfl rfl); (case c5 => decide); (case kB => exact locs rfl); (case c2 => exact rfl); (case c3 => exact rfl); (case c4 => exact rfl); k_whole; intro g' L' h' FG' F' N' B' X' T'; (try dsimp only); (try k_lift B'); (try k_fold))
  k_steps
  all_goals exact ret_I hret (by (unfold d2; first | (rw [if_pos (by omega)]; done) | (rw [if_neg (by omega), if_pos (by omega)]; done) | (rw [if_neg (by omega), if_neg (by omega)]; done))) (by k_asm) (by first | k_asm | (refine' cb_drop ?cbN ?cbS; (case cbN => assumption); (case cbS => kcj_all)))
end
section
local macro_rules | `(tactic| walk_at "no such key 0") => `(tactic| fail "none")
local macro_rules | `(tactic| walk_at "no such key 1") => `(tactic| fail "none")
local macro_rules | `(tactic| walk_at "no such key 2") => `(tactic| fail "none")
local macro_rules | `(tactic| walk_at "no such key 3") => `(tactic| fail "none")
local macro_rules | `(tactic| walk_at "no such key 4") => `(tactic| fail "none")
local macro_rules | `(tactic| walk_at "no such key 5") => `(tactic| fail "none")
local macro_rules | `(tactic| walk_at "no such key 6") => `(tactic| fail "none")
local macro_rules | `(tactic| walk_at "no such key 7") => `(tactic| fail "none")
local macro_rules | `(tactic| walk_at "no such key 8") => `(tactic| fail "none")
local macro_rules | `(tactic| walk_at "no such key 9") => `(tactic| fail "none")
local macro_rules | `(tactic| walk_at "no such key 10") => `(tactic| fail "none")
local macro_rules | `(tactic| walk_at "no such key 11") => `(tactic| fail "none")
local macro_rules | `(tactic| walk_at "no such key 12") => `(tactic| fail "none")
local macro_rules | `(tactic| walk_at "no such key 13") => `(tactic| fail "none")
local macro_rules | `(tactic| walk_at "no such key 14") => `(tactic| fail "none")
local macro_rules | `(tactic| walk_at "no such key 15") => `(tactic| fail "none")
local macro_rules | `(tactic| walk_at "no such key 16") => `(tactic| fail "none")
local macro_rules | `(tactic| walk_at "no such key 17") => `(tactic| fail "none")
local macro_rules | `(tactic| walk_at "no such key 18") => `(tactic| fail "none")
local macro_rules | `(tactic| walk_at "no such key 19") => `(tactic| fail "none")
local macro_rules | `(tactic| walk_at "no such key 20") => `(tactic| fail "none")
local macro_rules | `(tactic| walk_at "no such key 21") => `(tactic| fail "none")
local macro_rules | `(tactic| walk_at "no such key 22") => `(tactic| fail "none")
local macro_rules | `(tactic| walk_at "no such key 23") => `(tactic| fail "none")
local macro_rules | `(tactic| walk_at "no such key 24") => `(tactic| fail "none")
local macro_rules | `(tactic| walk_at "no such key 25") => `(tactic| fail "none")
local macro_rules | `(tactic| walk_at "no such key 26") => `(tactic| fail "none")
local macro_rules | `(tactic| walk_at "no such key 27") => `(tactic| fail "none")
local macro_rules | `(tactic| walk_at "no such key 28") => `(tactic| fail "none")
local macro_rules | `(tactic| walk_at "no such key 29") => `(tactic| fail "none")
local macro_rules | `(tactic| walk_at "no such key 30") => `(tactic| fail "none")
local macro_rules | `(tactic| walk_at "no such key 31") => `(tactic| fail "none")
local macro_rules | `(tactic| walk_at "no such key 32") => `(tactic| fail "none")
local macro_rules | `(tactic| walk_at "no such key 33") => `(tactic| fail "none")
local macro_rules | `(tactic| walk_at "no such key 34") => `(tactic| fail "none")
local macro_rules | `(tactic| walk_at "no such key 35") => `(tactic| fail "none")
local macro_rules | `(tactic| walk_at "no such key 36") => `(tactic| fail "none")
local macro_rules | `(tactic| walk_at "no such key 37") => `(tactic| fail "none")
local macro_rules | `(tactic| walk_at "call ref") => `(tactic| (k_here; k_dflt (refine' use (c_d1 _ _ ?h0) ?k1 ?k2 ?k3 ?k4 ?k5 ?kK ?kd ?ku ?_; (case k1 => k_asm); (case k2 => k_asm); (case k3 => k_asm); (case k4 => k_asm); (case k5 => k_asm); (case kK => first | exact rfl | assumption); (case h0 => tb_rel); (case kd => first | (refine' room1 ?a ?b; (case a => assumption); (case b => decide)) | ktr_room); (case ku => first | (refine' unit1 ?a ?b; (case a => assumption); (case b => decide)) | ktr_units); intro t9 h9 tk9 F9 N9; (try dsimp only); (try k_sweep); (try k_fold))))
local macro_rules | `(tactic| walk_at "call ref") => `(tactic| (k_here; k_dflt (refine' use (c_d2 _ _ ?h0) ?k1 ?k2 ?k3 ?k4 ?k5 ?kK ?kd ?ku ?_; (case k1 => k_asm); (case k2 => k_asm); (case k3 => k_asm); (case k4 => k_asm); (case k5 => k_asm); (case kK => first | exact rfl | assumption); (case h0 => tb_rel); (case kd => first | (refine' room1 ?a ?b; (case a => assumption); (case b => decide)) | ktr_room); (case ku => first | (refine' unit1 ?a ?b; (case a => assumption); (case b => decide)) | ktr_units); intro t9 h9 tk9 F9 N9; (try dsimp only); (try k_sweep); (try k_fold))))
local macro_rules | `(tactic| walk_at "call ref") => `(tactic| (k_here; k_dflt (refine' use (c_ym _ _) ?k1 ?k2 ?k3 ?k4 ?k5 ?kK ?kd ?ku ?_; (case k1 => k_asm); (case k2 => k_asm); (case k3 => k_asm); (case k4 => k_asm); (case k5 => k_asm); (case kK => first | exact rfl | assumption); (case kd => first | (refine' room1 ?a ?b; (case a => assumption); (case b => decide)) | ktr_room); (case ku => first | (refine' unit1 ?a ?b; (case a => assumption); (case b => decide)) | ktr_units); intro t9 h9 tk9 F9 N9; (try dsimp only); (try k_sweep); (try k_fold))))
set_option maxHeartbeats 0 in
theorem c_heb (y : Int) (t t1 t2 : Tok) (hy : 0 ≤ y ∧ y ≤ 1000001000) : Ctr 4 w p loose mean mg mb 180 [.int y t, .int 7 t1, .int 1 t2] (fun t => .float (H (1391982 + 4 * (d1 y + d2 y + 2))) t) := by
  unfold Ctr
  k_fill
  intro dp un gd cn cs a ccd cl outer A₀ base h₀ L m news s Q E B F X N T hk hd hu hret
  have b0 := d1_bnd (y := y) (by omega)
  have b1 := d1_low (y := y) (by omega)
  have b2 := d2_bnd (y := y)
  refine wpAny_call ?_
  k_dflt (refine' code_def ?k1 ?k2 ?k3 ?k4 ?k5 ?kA ?kF ?kK ?k6 ?k7 ?k8 ?k9 ?kB ?_ ?c2 ?c3 ?c4 ?c5; (case kA => exact rfl); (case kF => exact rfl); (case kK => assumption); (case k1 => k_asm); (case k2 => k_asm); (case k3 => k_asm); (case k4 => k_asm); (case k5 => k_asm); (case k6 => k_is); (case k7 => k_is); (case k8 => ktr_room); (case k9 => first | exact BindsTo.of_eq rfl | exact binds_K (by k_in) rfl (by k_is) rfl rfl rfl); (case c5 => decide); (case kB => exact locs rfl); (case c2 => exact rfl); (case c3 => exact rfl); (case c4 => exact rfl); k_whole; intro g' L' h' FG' F' N' B' X' T'; (try dsimp only); (try k_lift B'); (try k_fold))
  k_steps
  all_goals exact ret_F hret (by omega) (by k_asm) (by first | k_asm | (refine' cb_drop ?cbN ?cbS; (case cbN => assumption); (case cbS => kcj_all)))
end
section
local macro_rules | `(tactic| walk_at "no such key 0") => `(tactic| fail "none")
local macro_rules | `(tactic| walk_at "no such key 1") => `(tactic| fail "none")
local macro_rules | `(tactic| walk_at "no such key 2") => `(tactic| fail "none")
local macro_rules | `(tactic| walk_at "no such key 3") => `(tactic| fail "none")
local macro_rules | `(tactic| walk_at "no such key 4") => `(tactic| fail "none")
local macro_rules | `(tactic| walk_at "no such key 5") => `(tactic| fail "none")
local macro_rules | `(tactic| walk_at "no such key 6") => `(tactic| fail "none")
local macro_rules | `(tactic| walk_at "no such key 7") => `(tactic| fail "none")
local macro_rules | `(tactic| walk_at "no such key 8") => `(tactic| fail "none")
local macro_rules | `(tactic| walk_at "no such key 9") => `(tactic| fail "none")
local macro_rules | `(tactic| walk_at "no such key 10") => `(tactic| fail "none")
local macro_rules | `(tactic| walk_at "no such key 11") => `(tactic| fail "none")
local macro_rules | `(tactic| walk_at "no such key 12") => `(tactic| fail "none")
local macro_rules | `(tactic| walk_at "no such key 13") => `(tactic| fail "none")
local macro_rules | `(tactic| walk_at "no such key 14") => `(tactic| fail "none")
local macro_rules | `(tactic| walk_at "no such key 15") => `(tactic| fail "none")
local macro_rules | `(tactic| walk_at "no such key 16") => `(tactic| fail "none")
local macro_rules | `(tactic| walk_at "no such key 17") => `(tactic| fail "none")
local macro_rules | `(tactic| walk_at "no such key 18") => `(tactic| fail "none")
local macro_rules | `(tactic| walk_at "no such key 19") => `(tactic| fail "none")
local macro_rules | `(tactic| walk_at "no such key 20") => `(tactic| fail "none")
local macro_rules | `(tactic| walk_at "no such key 21") => `(tactic| fail "none")
local macro_rules | `(tactic| walk_at "no such key 22") => `(tactic| fail "none")
local macro_rules | `(tactic| walk_at "no such key 23") => `(tactic| fail "none")
local macro_rules | `(tactic| walk_at "no such key 24") => `(tactic| fail "none")
local macro_rules | `(tactic| walk_at "no such key 25") => `(tactic| fail "none")
local macro_rules | `(tactic| walk_at "no such key 26") => `(tactic| fail "none")
local macro_rules | `(tactic| walk_at "no such key 27") => `(tactic| fail "none")
local macro_rules | `(tactic| walk_at "no such key 28") => `(tactic| fail "none")
local macro_rules | `(tactic| walk_at "no such key 29") => `(tactic| fail "none")
local macro_rules | `(tactic| walk_at "no such key 30") => `(tactic| fail "none")
local macro_rules | `(tactic| walk_at "no such key 31") => `(tactic| fail "none")
local macro_rules | `(tactic| walk_at "no such key 32") => `(tactic| fail "none")
local macro_rules | `(tactic| walk_at "no such key 33") => `(tactic| fail "none")
local macro_rules | `(tactic| walk_at "no such key 34") => `(tactic| fail "none")
local macro_rules | `(tactic| walk_at "no such key 35") => `(tactic| fail "none")
local macro_rules | `(tactic| walk_at "no such key 36") => `(tactic| fail "none")
local macro_rules | `(tactic| walk_at "no such key 37") => `(tactic| fail "none")
local macro_rules | `(tactic| walk_at "no such key 38") => `(tactic| fail "none")
local macro_rules | `(tactic| walk_at "call ref") => `(tactic| (k_here; k_dflt (refine' use (c_isleap _ _ _ ?h0) ?k1 ?k2 ?k3 ?k4 ?k5 ?kK ?kd ?ku ?_; (case k1 => k_asm); (case k2 => k_asm); (case k3 => k_asm); (case k4 => k_asm); (case k5 => k_asm); (case kK => first | exact rfl | assumption); (case h0 => assumption); (case kd => first | (refine' room1 ?a ?b; (case a => assumption); (case b => decide)) | ktr_room); (case ku => first | (refine' unit1 ?a ?b; (case a => assumption); (case b => decide)) | ktr_units); intro t9 h9 tk9 F9 N9; (try dsimp only); (try k_sweep); (try k_fold))))
local macro_rules | `(tactic| walk_at "call ref") => `(tactic| (k_here; k_dflt (refine' use (c_greg3T _ _ _ _ ?h0 ?h1) ?k1 ?k2 ?k3 ?k4 ?k5 ?kK ?kd ?ku ?_; (case k1 => k_asm); (case k2 => k_asm); (case k3 => k_asm); (case k4 => k_asm); (case k5 => k_asm); (case kK => first | exact rfl | assumption); (case h0 => tb_rel); (case h1 => assumption); (case kd => first | (refine' room1 ?a ?b; (case a => assumption); (case b => decide)) | ktr_room); (case ku => first | (refine' unit1 ?a ?b; (case a => assumption); (case b => decide)) | ktr_units); intro t9 h9 tk9 F9 N9; (try dsimp only); (try k_sweep); (try k_fold))))
local macro_rules | `(tactic| walk_at "call ref") => `(tactic| (k_here; k_dflt (refine' use (c_greg3F _ _ _ _ ?h0 ?h1) ?k1 ?k2 ?k3 ?k4 ?k5 ?kK ?kd ?ku ?_; (case k1 => k_asm); (case k2 => k_asm); (case k3 => k_asm); (case k4 => k_asm); (case k5 => k_asm); (case kK => first | exact rfl | assumption); (case h0 => tb_rel); (case h1 => assumption); (case kd => first | (refine' room1 ?a ?b; (case a => assumption); (case b => decide)) | ktr_room); (case ku => first | (refine' unit1 ?a ?b; (case a => assumption); (case b => decide)) | ktr_units); intro t9 h9 tk9 F9 N9; (try dsimp only); (try k_sweep); (try k_fold))))
set_option maxHeartbeats 0 in
theorem c_ind (y : Int) (t t1 t2 : Tok) (hy : -2000000000 ≤ y ∧ y ≤ 2000000000) : Ctr 5 w p loose mean mg mb 187 [.int y t, .int 1 t1, .int 1 t2] (fun t => .float (H (6885702 + 4 * (80 + 365 * (y + 77) + (y + 77) / 4 - (y + 77) / 100 + (y + 77) / 400))) t) := by
  unfold Ctr
  k_fill
  intro dp un gd cn cs a ccd cl outer A₀ base h₀ L m news s Q E B F X N T hk hd hu hret
  cases hb : leapB (y + 78)
  all_goals (refine wpAny_call ?_; k_dflt (refine' code_def ?k1 ?k2 ?k3 ?k4 ?k5 ?kA ?kF ?kK ?k6 ?k7 ?k8 ?k9 ?kB ?_ ?c2 ?c3 ?c4 ?c5; (case kA => exact rfl); (case kF => exact rfl); (case kK => assumption); (case k1 => k_asm); (case k2 => k_asm); (case k3 => k_asm); (case k4 => k_asm); (case k5 => k_asm); (case k6 => k_is); (case k7 => k_is); (case k8 => ktr_room); (case k9 => first | exact BindsTo.of_eq rfl | exact binds_K (by k_in) rfl (by k_is) rfl rfl rfl); (case c5 => decide); (case kB => exact locs rfl); (case c2 => exact rfl); (case c3 => exact rfl); (case c4 => exact rfl); k_whole; intro g' L' h' FG' F' N' B' X' T'; (try dsimp only); (try k_lift B'); (try k_fold)); k_steps)
  all_goals exact ret_F hret (by omega) (by k_asm) (by first | k_asm | (refine' cb_drop ?cbN ?cbS; (case cbN => assumption); (case cbS => kcj_all)))
end
section
local macro_rules | `(tactic| walk_at "no such key 0") => `(tactic| fail "none")
local macro_rules | `(tactic| walk_at "no such key 1") => `(tactic| fail "none")
local macro_rules | `(tactic| walk_at "no such key 2") => `(tactic| fail "none")
local macro_rules | `(tactic| walk_at "no such key 3") => `(tactic| fail "none")
local macro_rules | `(tactic| walk_at "no such key 4") => `(tactic| fail "none")
local macro_rules | `(tactic| walk_at "no such key 5") => `(tactic| fail "none")
local macro_rules | `(tactic| walk_at "no such key 6") => `(tactic| fail "none")
local macro_rules | `(tactic| walk_at "no such key 7") => `(tactic| fail "none")
local macro_rules | `(tactic| walk_at "no such key 8") => `(tactic| fail "none")
local macro_rules | `(tactic| walk_at "no such key 9") => `(tactic| fail "none")
local macro_rules | `(tactic| walk_at "no such key 10") => `(tactic| fail "none")
local macro_rules | `(tactic| walk_at "no such key 11") => `(tactic| fail "none")
local macro_rules | `(tactic| walk_at "no such key 12") => `(tactic| fail "none")
local macro_rules | `(tactic| walk_at "no such key 13") => `(tactic| fail "none")
local macro_rules | `(tactic| walk_at "no such key 14") => `(tactic| fail "none")
local macro_rules | `(tactic| walk_at "no such key 15") => `(tactic| fail "none")
local macro_rules | `(tactic| walk_at "no such key 16") => `(tactic| fail "none")
local macro_rules | `(tactic| walk_at "no such key 17") => `(tactic| fail "none")
local macro_rules | `(tactic| walk_at "no such key 18") => `(tactic| fail "none")
local macro_rules | `(tactic| walk_at "no such key 19") => `(tactic| fail "none")
local macro_rules | `(tactic| walk_at "no such key 20") => `(tactic| fail "none")
local macro_rules | `(tactic| walk_at "no such key 21") => `(tactic| fail "none")
local macro_rules | `(tactic| walk_at "no such key 22") => `(tactic| fail "none")
local macro_rules | `(tactic| walk_at "no such key 23") => `(tactic| fail "none")
local macro_rules | `(tactic| walk_at "no such key 24") => `(tactic| fail "none")
local macro_rules | `(tactic| walk_at "no such key 25") => `(tactic| fail "none")
local macro_rules | `(tactic| walk_at "no such key 26") => `(tactic| fail "none")
local macro_rules | `(tactic| walk_at "no such key 27") => `(tactic| fail "none")
local macro_rules | `(tactic| walk_at "no such key 28") => `(tactic| fail "none")
local macro_rules | `(tactic| walk_at "no such key 29") => `(tactic| fail "none")
local macro_rules | `(tactic| walk_at "no such key 30") => `(tactic| fail "none")
local macro_rules | `(tactic| walk_at "no such key 31") => `(tactic| fail "none")
local macro_rules | `(tactic| walk_at "no such key 32") => `(tactic| fail "none")
local macro_rules | `(tactic| walk_at "no such key 33") => `(tactic| fail "none")
local macro_rules | `(tactic| walk_at "no such key 34") => `(tactic| fail "none")
local macro_rules | `(tactic| walk_at "no such key 35") => `(tactic| fail "none")
local macro_rules | `(tactic| walk_at "no such key 36") => `(tactic| fail "none")
local macro_rules | `(tactic| walk_at "no such key 37") => `(tactic| fail "none")
local macro_rules | `(tactic| walk_at "no such key 38") => `(tactic| fail "none")
local macro_rules | `(tactic| walk_at "no such key 39") => `(tactic| fail "none")
local macro_rules | `(tactic| walk_at "no such key 40") => `(tactic| fail "none")
local macro_rules | `(tactic| walk_at "no such key 41") => `(tactic| fail "none")
local macro_rules | `(tactic| walk_at "call ref") => `(tactic| (k_here; k_dflt (refine' use (c_copt _ _ _ _ ?h0) ?k1 ?k2 ?k3 ?k4 ?k5 ?kK ?kd ?ku ?_; (case k1 => k_asm); (case k2 => k_asm); (case k3 => k_asm); (case k4 => k_asm); (case k5 => k_asm); (case kK => first | exact rfl | assumption); (case h0 => tb_rel); (case kd => first | (refine' room1 ?a ?b; (case a => assumption); (case b => decide)) | ktr_room); (case ku => first | (refine' unit1 ?a ?b; (case a => assumption); (case b => decide)) | ktr_units); intro t9 h9 tk9 F9 N9; (try dsimp only); (try k_sweep); (try k_fold))))
set_option maxHeartbeats 0 in
theorem c_fcopt (a0 : Int) (t : Tok) (ha : -250000000000 ≤ a0 ∧ a0 ≤ 250000000000) : CtrT 4 w p loose mean mg mb 101 [.float (H (4 * a0 + 2)) t] ((4 * (a0 - 1825029) + 1463) / 1461) := by
  unfold CtrT
  k_fill
  intro dp un gd cn cs a ccd cl outer A₀ base h₀ L m news s Q E B F X N T hk hd hu hret
  refine wpAny_call ?_
  k_dflt (refine' code_def ?k1 ?k2 ?k3 ?k4 ?k5 ?kA ?kF ?kK ?k6 ?k7 ?k8 ?k9 ?kB ?_ ?c2 ?c3 ?c4 ?c5; (case kA => exact rfl); (case kF => exact rfl); (case kK => assumption); (case k1 => k_asm); (case k2 => k_asm); (case k3 => k_asm); (case k4 => k_asm); (case k5 => k_asm); (case k6 => k_is); (case k7 => k_is); (case k8 => ktr_room); (case k9 => first | exact BindsTo.of_eq rfl | exact binds_K (by k_in) rfl (by k_is) rfl rfl rfl); (case c5 => decide); (case kB => exact locs rfl); (case c2 => exact rfl); (case c3 => exact rfl); (case c4 => exact rfl); k_whole; intro g' L' h' FG' F' N' B' X' T'; (try dsimp only); (try k_lift B'); (try k_fold))
  k_steps
  all_goals (refine' ret_T hret ?e ?F ?N; (case N => k_asm); (case F => k_asm); (case e => omega))
end
section
local macro_rules | `(tactic| walk_at "no such key 0") => `(tactic| fail "none")
local macro_rules | `(tactic| walk_at "no such key 1") => `(tactic| fail "none")
local macro_rules | `(tactic| walk_at "no such key 2") => `(tactic| fail "none")
local macro_rules | `(tactic| walk_at "no such key 3") => `(tactic| fail "none")
local macro_rules | `(tactic| walk_at "no such key 4") => `(tactic| fail "none")
local macro_rules | `(tactic| walk_at "no such key 5") => `(tactic| fail "none")
local macro_rules | `(tactic| walk_at "no such key 6") => `(tactic| fail "none")
local macro_rules | `(tactic| walk_at "no such key 7") => `(tactic| fail "none")
local macro_rules | `(tactic| walk_at "no such key 8") => `(tactic| fail "none")
local macro_rules | `(tactic| walk_at "no such key 9") => `(tactic| fail "none")
local macro_rules | `(tactic| walk_at "no such key 10") => `(tactic| fail "none")
local macro_rules | `(tactic| walk_at "no such key 11") => `(tactic| fail "none")
local macro_rules | `(tactic| walk_at "no such key 12") => `(tactic| fail "none")
local macro_rules | `(tactic| walk_at "no such key 13") => `(tactic| fail "none")
local macro_rules | `(tactic| walk_at "no such key 14") => `(tactic| fail "none")
local macro_rules | `(tactic| walk_at "no such key 15") => `(tactic| fail "none")
local macro_rules | `(tactic| walk_at "no such key 16") => `(tactic| fail "none")
local macro_rules | `(tactic| walk_at "no such key 17") => `(tactic| fail "none")
local macro_rules | `(tactic| walk_at "no such key 18") => `(tactic| fail "none")
local macro_rules | `(tactic| walk_at "no such key 19") => `(tactic| fail "none")
local macro_rules | `(tactic| walk_at "no such key 20") => `(tactic| fail "none")
local macro_rules | `(tactic| walk_at "no such key 21") => `(tactic| fail "none")
local macro_rules | `(tactic| walk_at "no such key 22") => `(tactic| fail "none")
local macro_rules | `(tactic| walk_at "no such key 23") => `(tactic| fail "none")
local macro_rules | `(tactic| walk_at "no such key 24") => `(tactic| fail "none")
local macro_rules | `(tactic| walk_at "no such key 25") => `(tactic| fail "none")
local macro_rules | `(tactic| walk_at "no such key 26") => `(tactic| fail "none")
local macro_rules | `(tactic| walk_at "no such key 27") => `(tactic| fail "none")
local macro_rules | `(tactic| walk_at "no such key 28") => `(tactic| fail "none")
local macro_rules | `(tactic| walk_at "no such key 29") => `(tactic| fail "none")
local macro_rules | `(tactic| walk_at "no such key 30") => `(tactic| fail "none")
local macro_rules | `(tactic| walk_at "no such key 31") => `(tactic| fail "none")
local macro_rules | `(tactic| walk_at "no such key 32") => `(tactic| fail "none")
local macro_rules | `(tactic| walk_at "no such key 33") => `(tactic| fail "none")
local macro_rules | `(tactic| walk_at "no such key 34") => `(tactic| fail "none")
local macro_rules | `(tactic| walk_at "no such key 35") => `(tactic| fail "none")
local macro_rules | `(tactic| walk_at "no such key 36") => `(tactic| fail "none")
local macro_rules | `(tactic| walk_at "no such key 37") => `(tactic| fail "none")
local macro_rules | `(tactic| walk_at "no such key 38") => `(tactic| fail "none")
local macro_rules | `(tactic| walk_at "no such key 39") => `(tactic| fail "none")
local macro_rules | `(tactic| walk_at "no such key 40") => `(tactic| fail "none")
local macro_rules | `(tactic| walk_at "no such key 41") => `(tactic| fail "none")
local macro_rules | `(tactic| walk_at "no such key 42") => `(tactic| fail "none")
local macro_rules | `(tactic| walk_at "call ref") => `(tactic| (k_here; k_dflt (refine' use (c_isl _ _ _ _ _ ?h0 ?h1) ?k1 ?k2 ?k3 ?k4 ?k5 ?kK ?kd ?ku ?_; (case k1 => k_asm); (case k2 => k_asm); (case k3 => k_asm); (case k4 => k_asm); (case k5 => k_asm); (case kK => first | exact rfl | assumption); (case h0 => tb_rel); (case h1 => tb_rel); (case kd => first | (refine' room1 ?a ?b; (case a => assumption); (case b => decide)) | ktr_room); (case ku => first | (refine' unit1 ?a ?b; (case a => assumption); (case b => decide)) | ktr_units); intro t9 h9 tk9 F9 N9; (try dsimp only); (try k_sweep); (try k_fold))))
set_option maxHeartbeats 0 in
theorem c_fisl (a0 : Int) (t : Tok) (ha : -250000000000 ≤ a0 ∧ a0 ≤ 250000000000) : CtrT 4 w p loose mean mg mb 201 [.float (H (4 * a0 + 2)) t] ((30 * (a0 - 1948439) + 10646) / 10631) := by
  unfold CtrT
  k_fill
  intro dp un gd cn cs a ccd cl outer A₀ base h₀ L m news s Q E B F X N T hk hd hu hret
  refine wpAny_call ?_
  k_dflt (refine' code_def ?k1 ?k2 ?k3 ?k4 ?k5 ?kA ?kF ?kK ?k6 ?k7 ?k8 ?k9 ?kB ?_ ?c2 ?c3 ?c4 ?c5; (case kA => exact rfl); (case kF => exact rfl); (case kK => assumption); (case k1 => k_asm); (case k2 => k_asm); (case k3 => k_asm); (case k4 => k_asm); (case k5 => k_asm); (case k6 => k_is); (case k7 => k_is); (case k8 => ktr_room); (case k9 => first | exact BindsTo.of_eq rfl | exact binds_K (by k_in) rfl (by k_is) rfl rfl rfl); (case c5 => decide); (case kB => exact locs rfl); (case c2 => exact rfl); (case c3 => exact rfl); (case c4 => exact rfl); k_whole; intro g' L' h' FG' F' N' B' X' T'; (try dsimp only); (try k_lift B'); (try k_fold))
  k_steps
  all_goals (refine' ret_T hret ?e ?F ?N; (case N => k_asm); (case F => k_asm); (case e => omega))
end
section
local macro_rules | `(tactic| walk_at "no such key 0") => `(tactic| fail "none")
local macro_rules | `(tactic| walk_at "no such key 1") => `(tactic| fail "none")
local macro_rules | `(tactic| walk_at "no such key 2") => `(tactic| fail "none")
local macro_rules | `(tactic| walk_at "no such key 3") => `(tactic| fail "none")
local macro_rules | `(tactic| walk_at "no such key 4") => `(tactic| fail "none")
local macro_rules | `(tactic| walk_at "no such key 5") => `(tactic| fail "none")
local macro_rules | `(tactic| walk_at "no such key 6") => `(tactic| fail "none")
local macro_rules | `(tactic| walk_at "no such key 7") => `(tactic| fail "none")
local macro_rules | `(tactic| walk_at "no such key 8") => `(tactic| fail "none")
local macro_rules | `(tactic| walk_at "no such key 9") => `(tactic| fail "none")
local macro_rules | `(tactic| walk_at "no such key 10") => `(tactic| fail "none")
local macro_rules | `(tactic| walk_at "no such key 11") => `(tactic| fail "none")
local macro_rules | `(tactic| walk_at "no such key 12") => `(tactic| fail "none")
local macro_rules | `(tactic| walk_at "no such key 13") => `(tactic| fail "none")
local macro_rules | `(tactic| walk_at "no such key 14") => `(tactic| fail "none")
local macro_rules | `(tactic| walk_at "no such key 15") => `(tactic| fail "none")
local macro_rules | `(tactic| walk_at "no such key 16") => `(tactic| fail "none")
local macro_rules | `(tactic| walk_at "no such key 17") => `(tactic| fail "none")
local macro_rules | `(tactic| walk_at "no such key 18") => `(tactic| fail "none")
local macro_rules | `(tactic| walk_at "no such key 19") => `(tactic| fail "none")
local macro_rules | `(tactic| walk_at "no such key 20") => `(tactic| fail "none")
local macro_rules | `(tactic| walk_at "no such key 21") => `(tactic| fail "none")
local macro_rules | `(tactic| walk_at "no such key 22") => `(tactic| fail "none")
local macro_rules | `(tactic| walk_at "no such key 23") => `(tactic| fail "none")
local macro_rules | `(tactic| walk_at "no such key 24") => `(tactic| fail "none")
local macro_rules | `(tactic| walk_at "no such key 25") => `(tactic| fail "none")
local macro_rules | `(tactic| walk_at "no such key 26") => `(tactic| fail "none")
local macro_rules | `(tactic| walk_at "no such key 27") => `(tactic| fail "none")
local macro_rules | `(tactic| walk_at "no such key 28") => `(tactic| fail "none")
local macro_rules | `(tactic| walk_at "no such key 29") => `(tactic| fail "none")
local macro_rules | `(tactic| walk_at "no such key 30") => `(tactic| fail "none")
local macro_rules | `(tactic| walk_at "no such key 31") => `(tactic| fail "none")
local macro_rules | `(tactic| walk_at "no such key 32") => `(tactic| fail "none")
local macro_rules | `(tactic| walk_at "no such key 33") => `(tactic| fail "none")
local macro_rules | `(tactic| walk_at "no such key 34") => `(tactic| fail "none")
local macro_rules | `(tactic| walk_at "no such key 35") => `(tactic| fail "none")
local macro_rules | `(tactic| walk_at "no such key 36") => `(tactic| fail "none")
local macro_rules | `(tactic| walk_at "no such key 37") => `(tactic| fail "none")
local macro_rules | `(tactic| walk_at "no such key 38") => `(tactic| fail "none")
local macro_rules | `(tactic| walk_at "no such key 39") => `(tactic| fail "none")
local macro_rules | `(tactic| walk_at "no such key 40") => `(tactic| fail "none")
local macro_rules | `(tactic| walk_at "no such key 41") => `(tactic| fail "none")
local macro_rules | `(tactic| walk_at "no such key 42") => `(tactic| fail "none")
local macro_rules | `(tactic| walk_at "no such key 43") => `(tactic| fail "none")
local macro_rules | `(tactic| walk_at "no such key 44") => `(tactic| fail "none")
set_option maxHeartbeats 0 in
theorem c_fjul (a0 : Int) (t : Tok) (ha : -250000000000 ≤ a0 ∧ a0 ≤ 250000000000) : CtrT 1 w p loose mean mg mb 230 [.float (H (4 * a0 + 2)) t] ((4 * (a0 + 1525 - 429) + 3) / 1461 + 1 - 4716) := by
  unfold CtrT
  k_fill
  intro dp un gd cn cs a ccd cl outer A₀ base h₀ L m news s Q E B F X N T hk hd hu hret
  refine wpAny_call ?_
  k_dflt (refine' code_def ?k1 ?k2 ?k3 ?k4 ?k5 ?kA ?kF ?kK ?k6 ?k7 ?k8 ?k9 ?kB ?_ ?c2 ?c3 ?c4 ?c5; (case kA => exact rfl); (case kF => exact rfl); (case kK => assumption); (case k1 => k_asm); (case k2 => k_asm); (case k3 => k_asm); (case k4 => k_asm); (case k5 => k_asm); (case k6 => k_is); (case k7 => k_is); (case k8 => ktr_room); (case k9 => first | exact BindsTo.of_eq rfl | exact binds_K (by k_in) rfl (by k_is) rfl rfl rfl); (case c5 => decide); (case kB => exact locs rfl); (case c2 => exact rfl); (case c3 => exact rfl); (case c4 => exact rfl); k_whole; intro g' L' h' FG' F' N' B' X' T'; (try dsimp only); (try k_lift B'); (try k_fold))
  k_steps
  all_goals (refine' ret_T hret ?e ?F ?N; (case N => k_asm); (case F => k_asm); (case e => omega))
end
section
local macro_rules | `(tactic| walk_at "no such key 0") => `(tactic| fail "none")
local macro_rules | `(tactic| walk_at "no such key 1") => `(tactic| fail "none")
local macro_rules | `(tactic| walk_at "no such key 2") => `(tactic| fail "none")
local macro_rules | `(tactic| walk_at "no such key 3") => `(tactic| fail "none")
local macro_rules | `(tactic| walk_at "no such key 4") => `(tactic| fail "none")
local macro_rules | `(tactic| walk_at "no such key 5") => `(tactic| fail "none")
local macro_rules | `(tactic| walk_at "no such key 6") => `(tactic| fail "none")
local macro_rules | `(tactic| walk_at "no such key 7") => `(tactic| fail "none")
local macro_rules | `(tactic| walk_at "no such key 8") => `(tactic| fail "none")
local macro_rules | `(tactic| walk_at "no such key 9") => `(tactic| fail "none")
local macro_rules | `(tactic| walk_at "no such key 10") => `(tactic| fail "none")
local macro_rules | `(tactic| walk_at "no such key 11") => `(tactic| fail "none")
local macro_rules | `(tactic| walk_at "no such key 12") => `(tactic| fail "none")
local macro_rules | `(tactic| walk_at "no such key 13") => `(tactic| fail "none")
local macro_rules | `(tactic| walk_at "no such key 14") => `(tactic| fail "none")
local macro_rules | `(tactic| walk_at "no such key 15") => `(tactic| fail "none")
local macro_rules | `(tactic| walk_at "no such key 16") => `(tactic| fail "none")
local macro_rules | `(tactic| walk_at "no such key 17") => `(tactic| fail "none")
local macro_rules | `(tactic| walk_at "no such key 18") => `(tactic| fail "none")
local macro_rules | `(tactic| walk_at "no such key 19") => `(tactic| fail "none")
local macro_rules | `(tactic| walk_at "no such key 20") => `(tactic| fail "none")
local macro_rules | `(tactic| walk_at "no such key 21") => `(tactic| fail "none")
local macro_rules | `(tactic| walk_at "no such key 22") => `(tactic| fail "none")
local macro_rules | `(tactic| walk_at "no such key 23") => `(tactic| fail "none")
local macro_rules | `(tactic| walk_at "no such key 24") => `(tactic| fail "none")
local macro_rules | `(tactic| walk_at "no such key 25") => `(tactic| fail "none")
local macro_rules | `(tactic| walk_at "no such key 26") => `(tactic| fail "none")
local macro_rules | `(tactic| walk_at "no such key 27") => `(tactic| fail "none")
local macro_rules | `(tactic| walk_at "no such key 28") => `(tactic| fail "none")
local macro_rules | `(tactic| walk_at "no such key 29") => `(tactic| fail "none")
local macro_rules | `(tactic| walk_at "no such key 30") => `(tactic| fail "none")
local macro_rules | `(tactic| walk_at "no such key 31") => `(tactic| fail "none")
local macro_rules | `(tactic| walk_at "no such key 32") => `(tactic| fail "none")
local macro_rules | `(tactic| walk_at "no such key 33") => `(tactic| fail "none")
local macro_rules | `(tactic| walk_at "no such key 34") => `(tactic| fail "none")
/-- the Gregorian leap days against the mean of 97 in 400 years -/
theorem greg_bnd (n : Int) : -591 ≤ 400 * (n / 4 - n / 100 + n / 400) - 97 * n ∧ 400 * (n / 4 - n / 100 + n / 400) - 97 * n ≤ 288 := by
  have e1 : n = 400 * (n / 400) + 100 * (n % 400 / 100) + 4 * (n % 100 / 4) + n % 4 := by omega
  have h1 : 0 ≤ n % 400 / 100 ∧ n % 400 / 100 ≤ 3 := by omega
  have h2 : 0 ≤ n % 100 / 4 ∧ n % 100 / 4 ≤ 24 := by omega
  have h3 : 0 ≤ n % 4 ∧ n % 4 ≤ 3 := by omega
  have e2 : n / 4 = 100 * (n / 400) + 25 * (n % 400 / 100) + n % 100 / 4 := by omega
  have e3 : n / 100 = 4 * (n / 400) + n % 400 / 100 := by omega
  generalize n / 400 = a at *
  generalize n % 400 / 100 = b at *
  generalize n % 100 / 4 = c at *
  generalize n % 4 = d at *
  omega
theorem near_greg (y n : Int) : (400 * (6885702 + 4 * (365 * (y + n - 1) + (y + n - 1) / 4 - (y + n - 1) / 100 + (y + n - 1) / 400) - (6885702 + 4 * (365 * (y - 1) + (y - 1) / 4 - (y - 1) / 100 + (y - 1) / 400))) - 4 * (146097 * n)).natAbs ≤ 4 * 879 := by
  have g1 := greg_bnd (y - 1)
  have g2 := greg_bnd (y + n - 1)
  omega
theorem near_ind (y n : Int) : (400 * (6885702 + 4 * (80 + 365 * (y + n + 77) + (y + n + 77) / 4 - (y + n + 77) / 100 + (y + n + 77) / 400) - (6885702 + 4 * (80 + 365 * (y + 77) + (y + 77) / 4 - (y + 77) / 100 + (y + 77) / 400))) - 4 * (146097 * n)).natAbs ≤ 4 * 879 := by
  have g1 := greg_bnd (y + 77)
  have g2 := greg_bnd (y + n + 77)
  omega
theorem near_pos (l n : Int) : (400 * (6885702 + 4 * (365 * (l + n + 1788 - 1) + (l + n + 1788 - 1) / 4 - (l + n + 1788 - 1) / 100 + (l + n + 1788 - 1) / 400) - (6885702 + 4 * (365 * (l + 1788 - 1) + (l + 1788 - 1) / 4 - (l + 1788 - 1) / 100 + (l + 1788 - 1) / 400))) - 4 * (146097 * n)).natAbs ≤ 4 * 879 := by
  have g1 := greg_bnd (l + 1788 - 1)
  have g2 := greg_bnd (l + n + 1788 - 1)
  omega
local macro_rules | `(tactic| walk_at "call ref") => `(tactic| (k_here; (with_reducible show wpAny _ _ (call (Value.ref 265) [_, _, _, _, _]) _ _ _); k_dflt (refine' use (c_near _ _ _ _ _ _ _ _ _ _ ?h0 ?h1 ?h2 ?h3 ?h4 ?h5) ?k1 ?k2 ?k3 ?k4 ?k5 ?kK ?kd ?ku ?_; (case k1 => k_asm); (case k2 => k_asm); (case k3 => k_asm); (case k4 => k_asm); (case k5 => k_asm); (case kK => first | exact rfl | assumption); (case h0 => assumption); (case h1 => tb_rel); (case h2 => assumption); (case h3 => assumption); (case h4 => assumption); (case h5 => assumption); (case kd => first | (refine' room1 ?a ?b; (case a => assumption); (case b => decide)) | ktr_room); (case ku => first | (refine' unit1 ?a ?b; (case a => assumption); (case b => decide)) | ktr_units); intro t9 h9 tk9 F9 N9; (try dsimp only); (try k_sweep); (try k_fold))))
local macro_rules | `(tactic| walk_at "call ref") => `(tactic| (k_here; (with_reducible show wpAny _ _ (call (Value.ref 64) [_, Value.int 1 _, _]) _ _ _); k_dflt (refine' use (c_greg _ _ _ _ ?h0) ?k1 ?k2 ?k3 ?k4 ?k5 ?kK ?kd ?ku ?_; (case k1 => k_asm); (case k2 => k_asm); (case k3 => k_asm); (case k4 => k_asm); (case k5 => k_asm); (case kK => first | exact rfl | assumption); (case h0 => tb_rel); (case kd => first | (refine' room1 ?a ?b; (case a => assumption); (case b => decide)) | ktr_room); (case ku => first | (refine' unit1 ?a ?b; (case a => assumption); (case b => decide)) | ktr_units); intro t9 h9 tk9 F9 N9; (try dsimp only); (try k_sweep); (try k_fold))))
local macro_rules | `(tactic| walk_at "call ref") => `(tactic| (k_here; (with_reducible show wpAny _ _ (call (Value.ref 187) [_, _, _]) _ _ _); k_dflt (refine' use (c_ind _ _ _ _ ?h0) ?k1 ?k2 ?k3 ?k4 ?k5 ?kK ?kd ?ku ?_; (case k1 => k_asm); (case k2 => k_asm); (case k3 => k_asm); (case k4 => k_asm); (case k5 => k_asm); (case kK => first | exact rfl | assumption); (case h0 => tb_rel); (case kd => first | (refine' room1 ?a ?b; (case a => assumption); (case b => decide)) | ktr_room); (case ku => first | (refine' unit1 ?a ?b; (case a => assumption); (case b => decide)) | ktr_units); intro t9 h9 tk9 F9 N9; (try dsimp only); (try k_sweep); (try k_fold))))
local macro_rules | `(tactic| walk_at "call ref") => `(tactic| (k_here; (with_reducible show wpAny _ _ (call (Value.ref 251) [_, _, _]) _ _ _); k_dflt (refine' use (c_pos _ _ _ _ ?h0) ?k1 ?k2 ?k3 ?k4 ?k5 ?kK ?kd ?ku ?_; (case k1 => k_asm); (case k2 => k_asm); (case k3 => k_asm); (case k4 => k_asm); (case k5 => k_asm); (case kK => first | exact rfl | assumption); (case h0 => tb_rel); (case kd => first | (refine' room1 ?a ?b; (case a => assumption); (case b => decide)) | ktr_room); (case ku => first | (refine' unit1 ?a ?b; (case a => assumption); (case b => decide)) | ktr_units); intro t9 h9 tk9 F9 N9; (try dsimp only); (try k_sweep); (try k_fold))))
local macro_rules | `(tactic| walk_at "call ref") => `(tactic| (k_here; (with_reducible show wpAny _ _ (call (Value.ref 237) [_, _, _]) _ _ _); k_dflt (refine' use (c_jul _ _ _ _ ?h0) ?k1 ?k2 ?k3 ?k4 ?k5 ?kK ?kd ?ku ?_; (case k1 => k_asm); (case k2 => k_asm); (case k3 => k_asm); (case k4 => k_asm); (case k5 => k_asm); (case kK => first | exact rfl | assumption); (case h0 => tb_rel); (case kd => first | (refine' room1 ?a ?b; (case a => assumption); (case b => decide)) | ktr_room); (case ku => first | (refine' unit1 ?a ?b; (case a => assumption); (case b => decide)) | ktr_units); intro t9 h9 tk9 F9 N9; (try dsimp only); (try k_sweep); (try k_fold))))
local macro_rules | `(tactic| walk_at "call ref") => `(tactic| (k_here; (with_reducible show wpAny _ _ (call (Value.ref 94) [_, _, _]) _ _ _); k_dflt (refine' use (c_copt _ _ _ _ ?h0) ?k1 ?k2 ?k3 ?k4 ?k5 ?kK ?kd ?ku ?_; (case k1 => k_asm); (case k2 => k_asm); (case k3 => k_asm); (case k4 => k_asm); (case k5 => k_asm); (case kK => first | exact rfl | assumption); (case h0 => tb_rel); (case kd => first | (refine' room1 ?a ?b; (case a => assumption); (case b => decide)) | ktr_room); (case ku => first | (refine' unit1 ?a ?b; (case a => assumption); (case b => decide)) | ktr_units); intro t9 h9 tk9 F9 N9; (try dsimp only); (try k_sweep); (try k_fold))))
local macro_rules | `(tactic| walk_at "call ref") => `(tactic| (k_here; (with_reducible show wpAny _ _ (call (Value.ref 87) [_, _, _, _]) _ _ _); k_dflt (refine' use (c_sark _ _ _ _ _ ?h0) ?k1 ?k2 ?k3 ?k4 ?k5 ?kK ?kd ?ku ?_; (case k1 => k_asm); (case k2 => k_asm); (case k3 => k_asm); (case k4 => k_asm); (case k5 => k_asm); (case kK => first | exact rfl | assumption); (case h0 => tb_rel); (case kd => first | (refine' room1 ?a ?b; (case a => assumption); (case b => decide)) | ktr_room); (case ku => first | (refine' unit1 ?a ?b; (case a => assumption); (case b => decide)) | ktr_units); intro t9 h9 tk9 F9 N9; (try dsimp only); (try k_sweep); (try k_fold))))
local macro_rules | `(tactic| walk_at "call ref") => `(tactic| (k_here; (with_reducible show wpAny _ _ (call (Value.ref 87) [_, _, _]) _ _ _); k_dflt (refine' use (c_arm _ _ _ _ ?h0) ?k1 ?k2 ?k3 ?k4 ?k5 ?kK ?kd ?ku ?_; (case k1 => k_asm); (case k2 => k_asm); (case k3 => k_asm); (case k4 => k_asm); (case k5 => k_asm); (case kK => first | exact rfl | assumption); (case h0 => tb_rel); (case kd => first | (refine' room1 ?a ?b; (case a => assumption); (case b => decide)) | ktr_room); (case ku => first | (refine' unit1 ?a ?b; (case a => assumption); (case b => decide)) | ktr_units); intro t9 h9 tk9 F9 N9; (try dsimp only); (try k_sweep); (try k_fold))))
local macro_rules | `(tactic| walk_at "call ref") => `(tactic| (k_here; (with_reducible show wpAny _ _ (call (Value.ref 117) [_, _, _, _]) _ _ _); k_dflt (refine' use (c_fren _ _ _ _ _ ?h0) ?k1 ?k2 ?k3 ?k4 ?k5 ?kK ?kd ?ku ?_; (case k1 => k_asm); (case k2 => k_asm); (case k3 => k_asm); (case k4 => k_asm); (case k5 => k_asm); (case kK => first | exact rfl | assumption); (case h0 => tb_rel); (case kd => first | (refine' room1 ?a ?b; (case a => assumption); (case b => decide)) | ktr_room); (case ku => first | (refine' unit1 ?a ?b; (case a => assumption); (case b => decide)) | ktr_units); intro t9 h9 tk9 F9 N9; (try dsimp only); (try k_sweep); (try k_fold))))
local macro_rules | `(tactic| walk_at "call ref") => `(tactic| (k_here; (with_reducible show wpAny _ _ (call (Value.ref 194) [_, _, _]) _ _ _); k_dflt (refine' use (c_isl _ _ _ _ _ ?h0 ?h1) ?k1 ?k2 ?k3 ?k4 ?k5 ?kK ?kd ?ku ?_; (case k1 => k_asm); (case k2 => k_asm); (case k3 => k_asm); (case k4 => k_asm); (case k5 => k_asm); (case kK => first | exact rfl | assumption); (case h0 => tb_rel); (case h1 => tb_rel); (case kd => first | (refine' room1 ?a ?b; (case a => assumption); (case b => decide)) | ktr_room); (case ku => first | (refine' unit1 ?a ?b; (case a => assumption); (case b => decide)) | ktr_units); intro t9 h9 tk9 F9 N9; (try dsimp only); (try k_sweep); (try k_fold))))
local macro_rules | `(tactic| walk_at "eval ListComp") => `(tactic| (k_here; (with_reducible show wpAny _ _ (eval (Expr.ListComp _ [⟨Expr.Tuple [_, _, _, _] _ _, _, _, _⟩] _ _) _) _ _ _); k_dflt (refine' ListComp_4 ?yr ?F ?N ?hh ?clos ?cell ?kind ?names ?x1 ?x2 ?x3 ?x4 ?d12 ?d13 ?d14 ?d23 ?d24 ?d34 ?hm ?hsz ?hst ?hit ?hel ?hQ; (case yr => assumption); (case F => k_asm); (case N => k_asm); (case hh => exact rfl); (case clos => with_unfolding_all rfl); (case cell => decide); (case kind => exact rfl); (case names => decide); (case x1 => exact rfl); (case x2 => exact rfl); (case x3 => exact rfl); (case x4 => exact rfl); (case d12 => decide); (case d13 => decide); (case d14 => decide); (case d23 => decide); (case d24 => decide); (case d34 => decide); (case hit => (intro Q' h'; walk1; exact h')); (case hm => k_mem); (case hsz => exact Nat.le_of_ble_eq_true rfl); (case hst => tb_start); (case' hel => (intro k c cd mo t t1 t2 t3 I C D oI oC ys m₂ h tk E' b1 b2 b3 b4 b5 hC' e1 e2 e3 e4 F' N'; (try k_sweep); (try k_fold))); (case' hQ => (intro D' h' tk' F' N'; (try k_sweep); (try dsimp only))))))
local macro_rules | `(tactic| tb_start) => `(tactic| first | exact Steps.nil | (refine' Steps.cons ?s1 ?s2 ?s3 ?s4 ?s5 ?s6 ?s7; (case s1 => k_mem); (case s2 => omega); (case s3 => decide); (case s4 => decide); (case s5 => decide); (case s6 => first | exact near_greg _ _ | exact near_ind _ _ | exact near_pos _ _ | omega); tb_start))
set_option maxHeartbeats 0 in
theorem c_ny (y n : Int) (t t1 : Tok) (hy : -1000000000 ≤ y ∧ y ≤ 1000000000) (hn : 1 ≤ n ∧ n ≤ 1000000000) : Ctr 8 w p loose mean mg mb 270 [.int y t, .int n t1] (fun _ => .bool (true)) := by
  unfold Ctr
  k_fill
  intro dp un gd cn cs a ccd cl outer A₀ base h₀ L m news s Q E B F X N T hk hd hu hret
  have hyr : YearsAre n := trivial
  refine wpAny_call ?_
  k_dflt (refine' code_defC ?k1 ?k2 ?k3 ?k4 ?k5 ?kA ?kF ?kK ?k6 ?k7 ?k8 ?k9 ?kB ?kD ?_ ?c2 ?c3 ?c4; (case kA => exact rfl); (case kF => exact rfl); (case kK => assumption); (case k1 => k_asm); (case k2 => k_asm); (case k3 => k_asm); (case k4 => k_asm); (case k5 => k_asm); (case k6 => k_is); (case k7 => k_is); (case k8 => ktr_room); (case k9 => first | exact BindsTo.of_eq rfl | exact binds_K (by k_in) rfl (by k_is) rfl rfl rfl); (case kB => exact rfl); (case kD => decide +kernel); (case c2 => exact rfl); (case c3 => exact rfl); (case c4 => exact rfl); k_whole; intro g' L' h' tk' cells' FG' F' N' Y' B' X' T' l1; (try k_lt l1); k_cells Y'; (try simp only [List.cons_append, List.nil_append] at N'); (try dsimp only); (try k_lift B'); (try k_fold))
  k_steps
  all_goals first | exact End4.intro (by k_asm) (by k_asm) | exact ret_B hret rfl (by k_asm) (by first | k_asm | (refine' cb_drop ?cbN ?cbS; (case cbN => assumption); (case cbS => kcj_all))) 
end
section
local macro_rules | `(tactic| walk_at "no such key 0") => `(tactic| fail "none")
local macro_rules | `(tactic| walk_at "no such key 1") => `(tactic| fail "none")
local macro_rules | `(tactic| walk_at "no such key 2") => `(tactic| fail "none")
local macro_rules | `(tactic| walk_at "no such key 3") => `(tactic| fail "none")
local macro_rules | `(tactic| walk_at "no such key 4") => `(tactic| fail "none")
local macro_rules | `(tactic| walk_at "no such key 5") => `(tactic| fail "none")
local macro_rules | `(tactic| walk_at "no such key 6") => `(tactic| fail "none")
local macro_rules | `(tactic| walk_at "no such key 7") => `(tactic| fail "none")
local macro_rules | `(tactic| walk_at "no such key 8") => `(tactic| fail "none")
local macro_rules | `(tactic| walk_at "no such key 9") => `(tactic| fail "none")
local macro_rules | `(tactic| walk_at "no such key 10") => `(tactic| fail "none")
local macro_rules | `(tactic| walk_at "no such key 11") => `(tactic| fail "none")
local macro_rules | `(tactic| walk_at "no such key 12") => `(tactic| fail "none")
local macro_rules | `(tactic| walk_at "no such key 13") => `(tactic| fail "none")
local macro_rules | `(tactic| walk_at "no such key 14") => `(tactic| fail "none")
local macro_rules | `(tactic| walk_at "no such key 15") => `(tactic| fail "none")
local macro_rules | `(tactic| walk_at "no such key 16") => `(tactic| fail "none")
local macro_rules | `(tactic| walk_at "no such key 17") => `(tactic| fail "none")
local macro_rules | `(tactic| walk_at "no such key 18") => `(tactic| fail "none")
local macro_rules | `(tactic| walk_at "no such key 19") => `(tactic| fail "none")
local macro_rules | `(tactic| walk_at "no such key 20") => `(tactic| fail "none")
local macro_rules | `(tactic| walk_at "no such key 21") => `(tactic| fail "none")
local macro_rules | `(tactic| walk_at "no such key 22") => `(tactic| fail "none")
local macro_rules | `(tactic| walk_at "no such key 23") => `(tactic| fail "none")
local macro_rules | `(tactic| walk_at "no such key 24") => `(tactic| fail "none")
local macro_rules | `(tactic| walk_at "no such key 25") => `(tactic| fail "none")
local macro_rules | `(tactic| walk_at "no such key 26") => `(tactic| fail "none")
local macro_rules | `(tactic| walk_at "no such key 27") => `(tactic| fail "none")
local macro_rules | `(tactic| walk_at "no such key 28") => `(tactic| fail "none")
local macro_rules | `(tactic| walk_at "no such key 29") => `(tactic| fail "none")
local macro_rules | `(tactic| walk_at "no such key 30") => `(tactic| fail "none")
local macro_rules | `(tactic| walk_at "no such key 31") => `(tactic| fail "none")
local macro_rules | `(tactic| walk_at "no such key 32") => `(tactic| fail "none")
local macro_rules | `(tactic| walk_at "no such key 33") => `(tactic| fail "none")
local macro_rules | `(tactic| walk_at "no such key 34") => `(tactic| fail "none")
local macro_rules | `(tactic| walk_at "no such key 35") => `(tactic| fail "none")
local macro_rules | `(tactic| walk_at "no such key 36") => `(tactic| fail "none")
local macro_rules | `(tactic| walk_at "no such key 37") => `(tactic| fail "none")
local macro_rules | `(tactic| walk_at "no such key 38") => `(tactic| fail "none")
local macro_rules | `(tactic| walk_at "no such key 39") => `(tactic| fail "none")
local macro_rules | `(tactic| walk_at "no such key 40") => `(tactic| fail "none")
local macro_rules | `(tactic| walk_at "no such key 41") => `(tactic| fail "none")
local macro_rules | `(tactic| walk_at "no such key 42") => `(tactic| fail "none")
local macro_rules | `(tactic| walk_at "no such key 43") => `(tactic| fail "none")
local macro_rules | `(tactic| walk_at "no such key 44") => `(tactic| fail "none")
/-- the months before the Hebrew year y -/
def mo (y : Int) : Int := (235 * y - 234) / 19
theorem ym_mo (y : Int) : ym y = mo (y + 1) - mo y := by
  unfold ym mo
  have e1 : (235 * (y + 1) - 234) / 19 = 12 * y + (y * 7 + 1) / 19 := by omega
  rw [e1]
  split
  · have e2 : (235 * y - 234) / 19 = 12 * y + (y * 7 + 1) / 19 - 13 := by omega
    omega
  · have e2 : (235 * y - 234) / 19 = 12 * y + (y * 7 + 1) / 19 - 12 := by omega
    omega
theorem mo_step (y : Int) : (235 * (y + 1) - 234) / 19 = (235 * y - 234) / 19 + 12 ∨ (235 * (y + 1) - 234) / 19 = (235 * y - 234) / 19 + 13 := by
  have h := ym_mo y
  unfold mo at h
  have h2 : ym y = 12 ∨ ym y = 13 := by unfold ym; split <;> omega
  omega
theorem sum_mo (y : Int) : ∀ (n : Nat) (a : Int), (List.map (fun k' => ym (y + k')) (rangeKs a n)).sum = mo (y + a + n) - mo (y + a) := by
  intro n
  induction n with
  | zero => intro a; simp [rangeKs]
  | succ n ih =>
    intro a
    rw [kll_cons, List.map_cons, List.sum_cons, ih (a + 1), ym_mo, show y + a + ((n + 1 : Nat) : Int) = y + (a + 1) + (n : Int) by omega, show y + (a + 1) = y + a + 1 by omega]
    omega
theorem sum_ym (y n : Int) (h : 1 ≤ n) : (List.map (fun k' => ym (y + k')) (rangeKs 0 (n - 0).toNat)).sum = (235 * (y + n) - 234) / 19 - (235 * y - 234) / 19 := by
  have e := sum_mo y (n - 0).toNat 0
  unfold mo at e
  rw [e, show y + 0 + (((n - 0).toNat : Nat) : Int) = y + n by omega, show y + 0 = y by omega]
/-- the new year's delays are two days at most in all -/
theorem heb_bnd (y : Int) : -13835 ≤ 25920 * (d1 y + d2 y) - 765433 * ((235 * y - 234) / 19) ∧ 25920 * (d1 y + d2 y) - 765433 * ((235 * y - 234) / 19) ≤ 63924 := by
  have h0 : 12084 - 25919 ≤ 25920 * d0 y - 765433 * ((235 * y - 234) / 19) ∧ 25920 * d0 y - 765433 * ((235 * y - 234) / 19) ≤ 12084 := by
    unfold d0; omega
  have h1 : d0 y ≤ d1 y ∧ d1 y ≤ d0 y + 1 := by unfold d1; split <;> omega
  have h2 : d1 (y + 1) ≤ d0 (y + 1) + 1 ∧ d0 (y + 1) ≤ d1 (y + 1) := by unfold d1; split <;> omega
  have h3 : d0 (y + 1) - d0 y ≤ 355 ∨ 383 ≤ d0 (y + 1) - d0 y := by
    unfold d0
    have hs := mo_step y
    generalize (235 * (y + 1) - 234) / 19 = b at *
    generalize (235 * y - 234) / 19 = a at *
    rcases hs with rfl | rfl
    · left; omega
    · right; omega
  have h4 := d2_bnd (y := y)
  have h5 : d2 y = 2 → d1 (y + 1) - d1 y = 356 := by
    unfold d2
    split
    · intro _; assumption
    · split <;> (intro h; omega)
  have h6 : d1 y + d2 y ≤ d0 y + 2 := by
    by_cases c : d2 y = 2
    · have := h5 c; omega
    · omega
  omega
local macro_rules | `(tactic| walk_at "call ref") => `(tactic| (k_here; (with_reducible show wpAny _ _ (call (Value.ref 138) [_]) _ _ _); k_dflt (refine' use (c_ym _ _) ?k1 ?k2 ?k3 ?k4 ?k5 ?kK ?kd ?ku ?_; (case k1 => k_asm); (case k2 => k_asm); (case k3 => k_asm); (case k4 => k_asm); (case k5 => k_asm); (case kK => first | exact rfl | assumption); (case kd => first | (refine' room1 ?a ?b; (case a => assumption); (case b => decide)) | ktr_room); (case ku => first | (refine' unit1 ?a ?b; (case a => assumption); (case b => decide)) | ktr_units); intro t9 h9 tk9 F9 N9; (try dsimp only); (try k_sweep); (try k_fold))))
local macro_rules | `(tactic| walk_at "call ref") => `(tactic| (k_here; (with_reducible show wpAny _ _ (call (Value.ref 180) [_, _, _]) _ _ _); k_dflt (refine' use (c_heb _ _ _ _ ?h0) ?k1 ?k2 ?k3 ?k4 ?k5 ?kK ?kd ?ku ?_; (case k1 => k_asm); (case k2 => k_asm); (case k3 => k_asm); (case k4 => k_asm); (case k5 => k_asm); (case kK => first | exact rfl | assumption); (case h0 => tb_rel); (case kd => first | (refine' room1 ?a ?b; (case a => assumption); (case b => decide)) | ktr_room); (case ku => first | (refine' unit1 ?a ?b; (case a => assumption); (case b => decide)) | ktr_units); intro t9 h9 tk9 F9 N9; (try dsimp only); (try k_sweep); (try k_fold))))
set_option maxHeartbeats 0 in
theorem c_lh (y n : Int) (t t1 : Tok) (hy : 1 ≤ y ∧ y ≤ 1000000001) (hn : 1 ≤ n ∧ n ≤ 39) : Ctr 6 w p loose mean mg mb 275 [.int y t, .int n t1] (fun _ => .bool (true)) := by
  unfold Ctr
  k_fill
  intro dp un gd cn cs a ccd cl outer A₀ base h₀ L m news s Q E B F X N T hk hd hu hret
  have hS := sum_ym y n hn.1
  have z1 := heb_bnd y
  have z2 := heb_bnd (y + n)
  have b1 := d1_bnd (y := y) (by omega)
  have b2 := d1_bnd (y := y + n) (by omega)
  have b3 := d2_bnd (y := y)
  have b4 := d2_bnd (y := y + n)
  have c1 : -100000 ≤ d1 (y + n) + d2 (y + n) - (d1 y + d2 y) ∧ d1 (y + n) + d2 (y + n) - (d1 y + d2 y) ≤ 100000 := by omega
  have c2 : 0 ≤ (List.map (fun k' => ym (y + k')) (rangeKs 0 (n - 0).toNat)).sum ∧ (List.map (fun k' => ym (y + k')) (rangeKs 0 (n - 0).toNat)).sum ≤ 1000 := by omega
  have c3 : (19 * (List.map (fun k' => ym (y + k')) (rangeKs 0 (n - 0).toNat)).sum - 235 * n).natAbs ≤ 18 := by omega
  have c4 : (25920 * (4 * (d1 (y + n) + d2 (y + n) + 2) - 4 * (d1 y + d2 y + 2)) - 4 * (765433 * (List.map (fun k' => ym (y + k')) (rangeKs 0 (n - 0).toNat)).sum)).natAbs < 4 * 77760 := by omega
  clear hS z1 z2
  refine wpAny_call ?_
  k_dflt (refine' code_defC ?k1 ?k2 ?k3 ?k4 ?k5 ?kA ?kF ?kK ?k6 ?k7 ?k8 ?k9 ?kB ?kD ?_ ?c2 ?c3 ?c4; (case kA => exact rfl); (case kF => exact rfl); (case kK => assumption); (case k1 => k_asm); (case k2 => k_asm); (case k3 => k_asm); (case k4 => k_asm); (case k5 => k_asm); (case k6 => k_is); (case k7 => k_is); (case k8 => ktr_room); (case k9 => first | exact BindsTo.of_eq rfl | exact binds_K (by k_in) rfl (by k_is) rfl rfl rfl); (case kB => exact rfl); (case kD => decide +kernel); (case c2 => exact rfl); (case c3 => exact rfl); (case c4 => exact rfl); k_whole; intro g' L' h' tk' cells' FG' F' N' Y' B' X' T' l1; (try k_lt l1); k_cells Y'; (try simp only [List.cons_append, List.nil_append] at N'); (try dsimp only); (try k_lift B'); (try k_fold))
  k_steps
  all_goals exact ret_B hret (by (simp only [decide_eq_true_eq, decide_eq_false_iff_not, Bool.not_eq_true] at *; omega)) (by k_asm) (by first | k_asm | (refine' cb_drop ?cbN ?cbS; (case cbN => assumption); (case cbS => kcj_all)))
end
section
local macro_rules | `(tactic| walk_at "no such key 0") => `(tactic| fail "none")
local macro_rules | `(tactic| walk_at "no such key 1") => `(tactic| fail "none")
local macro_rules | `(tactic| walk_at "no such key 2") => `(tactic| fail "none")
local macro_rules | `(tactic| walk_at "no such key 3") => `(tactic| fail "none")
local macro_rules | `(tactic| walk_at "no such key 4") => `(tactic| fail "none")
local macro_rules | `(tactic| walk_at "no such key 5") => `(tactic| fail "none")
local macro_rules | `(tactic| walk_at "no such key 6") => `(tactic| fail "none")
local macro_rules | `(tactic| walk_at "no such key 7") => `(tactic| fail "none")
local macro_rules | `(tactic| walk_at "no such key 8") => `(tactic| fail "none")
local macro_rules | `(tactic| walk_at "no such key 9") => `(tactic| fail "none")
local macro_rules | `(tactic| walk_at "no such key 10") => `(tactic| fail "none")
local macro_rules | `(tactic| walk_at "no such key 11") => `(tactic| fail "none")
local macro_rules | `(tactic| walk_at "no such key 12") => `(tactic| fail "none")
local macro_rules | `(tactic| walk_at "no such key 13") => `(tactic| fail "none")
local macro_rules | `(tactic| walk_at "no such key 14") => `(tactic| fail "none")
local macro_rules | `(tactic| walk_at "no such key 15") => `(tactic| fail "none")
local macro_rules | `(tactic| walk_at "no such key 16") => `(tactic| fail "none")
local macro_rules | `(tactic| walk_at "no such key 17") => `(tactic| fail "none")
local macro_rules | `(tactic| walk_at "no such key 18") => `(tactic| fail "none")
local macro_rules | `(tactic| walk_at "no such key 19") => `(tactic| fail "none")
local macro_rules | `(tactic| walk_at "no such key 20") => `(tactic| fail "none")
local macro_rules | `(tactic| walk_at "no such key 21") => `(tactic| fail "none")
local macro_rules | `(tactic| walk_at "no such key 22") => `(tactic| fail "none")
local macro_rules | `(tactic| walk_at "no such key 23") => `(tactic| fail "none")
local macro_rules | `(tactic| walk_at "no such key 24") => `(tactic| fail "none")
local macro_rules | `(tactic| walk_at "no such key 25") => `(tactic| fail "none")
local macro_rules | `(tactic| walk_at "no such key 26") => `(tactic| fail "none")
local macro_rules | `(tactic| walk_at "no such key 27") => `(tactic| fail "none")
local macro_rules | `(tactic| walk_at "no such key 28") => `(tactic| fail "none")
local macro_rules | `(tactic| walk_at "no such key 29") => `(tactic| fail "none")
local macro_rules | `(tactic| walk_at "no such key 30") => `(tactic| fail "none")
local macro_rules | `(tactic| walk_at "no such key 31") => `(tactic| fail "none")
local macro_rules | `(tactic| walk_at "no such key 32") => `(tactic| fail "none")
theorem within_bnd (n most : Int) (hm : 0 < most) : -most ≤ within n most ∧ within n most ≤ most := by
  unfold within
  have h1 := Int.emod_nonneg n (show 2 * most + 1 ≠ 0 by omega)
  have h2 := Int.emod_lt_of_pos n (show 0 < 2 * most + 1 by omega)
  split <;> omega
def CtrW (D : Nat) (w : World) (p : Program) (loose : List Str) (mean : ExcName → Option Value) (mg mb : Str → Option Value) (f : Addr) (vs : List Value) (P : Int → Prop) : Prop :=
  ∀ (dp un : Nat) (gd : Option (List Code)) (cn : Str) (cs : Scope) (a : Addr) (ccd : Value) (cl : List (Str × Addr)) (outer : List Env) (A₀ : Around) (base h₀ : Heap) (L : Addr) (m : Str → Option Value) (news : List (Addr × Obj)) (s : Shared) (Q E : Value → Shared → Prop),
    Below A₀ base outer h₀ → Fr h₀ L s.heap m → (hd.heap_39 w.params).In h₀ → News h₀ L s.heap news → Top p loose mean mg mb h₀ → cs.kind = .function → dp + D < recursionLimit → un + 8 * D < cLine →
    (∀ (r : Int) (t : Tok) (h' : Heap) (tk' : Nat), P r → Fr h₀ L h' m → News h₀ L h' news → Q (.int r t) { s with heap := h', toks := tk' }) →
    wpAny (model PySem.Challenge.rw_ad5036_01.row.prog w) (ktrTop dp un gd cn cs L a ccd cl outer) (call (.ref f) vs) Q E s
theorem c_withinW (B n most : Int) (t t1 : Tok) (he : most = B) (hm : 0 < B ∧ B ≤ 100000000000) : CtrW 1 w p loose mean mg mb 258 [.int n t, .int most t1] (fun r => -B ≤ r ∧ r ≤ B) := by
  subst he
  exact fun _ _ _ _ _ _ _ _ _ _ _ _ _ _ _ _ _ _ B F X N T hk hd hu hret => c_within n most t t1 hm _ _ _ _ _ _ _ _ _ _ _ _ _ _ _ _ _ _ B F X N T hk hd hu fun t h' tk' F N => hret _ t h' tk' (within_bnd n most hm.1) F N
theorem useW {D : Nat} {f : Addr} {vs : List Value} {P : Int → Prop} {dp un : Nat} {gd : Option (List Code)} {cn : Str} {cs : Scope} {a : Addr} {ccd : Value} {cl : List (Str × Addr)} {outer : List Env} {A₀ : Around} {base h₀ : Heap} {L : Addr} {m : Str → Option Value} {news : List (Addr × Obj)} {s : Shared} {Q E : Value → Shared → Prop}
    (C : CtrW D w p loose mean mg mb f vs P) (B : Below A₀ base outer h₀) (F : Fr h₀ L s.heap m) (X : (hd.heap_39 w.params).In h₀) (N : News h₀ L s.heap news) (T : Top p loose mean mg mb h₀) (hk : cs.kind = .function) (hd : dp + D < recursionLimit) (hu : un + 8 * D < cLine)
    (ret : ∀ (r : Int) (t : Tok) (h' : Heap) (tk' : Nat), P r → Fr h₀ L h' m → News h₀ L h' news → Q (.int r t) { s with heap := h', toks := tk' }) :
    wpAny (model PySem.Challenge.rw_ad5036_01.row.prog w) (ktrTop dp un gd cn cs L a ccd cl outer) (call (.ref f) vs) Q E s := C _ _ _ _ _ _ _ _ _ _ _ _ _ _ _ _ _ _ B F X N T hk hd hu ret
theorem k_form {k : Int} (h : k % 4 = 2) : 4 * (k / 4) + 2 = k := by omega
theorem c_fislK (k : Int) (t : Tok) (hm : k % 4 = 2) (hr : -1000000000000 ≤ k ∧ k ≤ 1000000000000) : CtrT 4 w p loose mean mg mb 201 [.float (H k) t] ((30 * (k / 4 - 1948439) + 10646) / 10631) := by
  have c := c_fisl (w := w) (p := p) (loose := loose) (mean := mean) (mg := mg) (mb := mb) (k / 4) t (by omega)
  rw [k_form hm] at c
  exact c
theorem c_fcoptK (k : Int) (t : Tok) (hm : k % 4 = 2) (hr : -1000000000000 ≤ k ∧ k ≤ 1000000000000) : CtrT 4 w p loose mean mg mb 101 [.float (H k) t] ((4 * (k / 4 - 1825029) + 1463) / 1461) := by
  have c := c_fcopt (w := w) (p := p) (loose := loose) (mean := mean) (mg := mg) (mb := mb) (k / 4) t (by omega)
  rw [k_form hm] at c
  exact c
theorem c_fjulK (k : Int) (t : Tok) (hm : k % 4 = 2) (hr : -1000000000000 ≤ k ∧ k ≤ 1000000000000) : CtrT 1 w p loose mean mg mb 230 [.float (H k) t] ((4 * (k / 4 + 1525 - 429) + 3) / 1461 + 1 - 4716) := by
  have c := c_fjul (w := w) (p := p) (loose := loose) (mean := mean) (mg := mg) (mb := mb) (k / 4) t (by omega)
  rw [k_form hm] at c
  exact c
theorem four_ints {ws : List Value} {ns : List Int} (h : IntsAre ws (List.take 4 (List.take 4 ns ++ [0, 0, 0, 0]))) : ∃ (a b c d : Int) (t1 t2 t3 t4 : Tok), ws = [.int a t1, .int b t2, .int c t3, .int d t4] := by
  have hl : (List.take 4 (List.take 4 ns ++ [0, 0, 0, 0])).length = 4 := by simp [List.length_take]
  generalize List.take 4 (List.take 4 ns ++ [0, 0, 0, 0]) = l at h hl
  match l, hl, h with
  | [_, _, _, _], _, .cons a t1 (.cons b t2 (.cons c t3 (.cons d t4 .nil))) => exact ⟨a, b, c, d, t1, t2, t3, t4, rfl⟩
theorem r_mod_any (B : Int) {prog : Program} {w : World} {A : Around} {E : Value → Shared → Prop} {s : Shared} {a b : Int} {t u : Tok} {Q : Value → Shared → Prop} (he : b = B) (hb : 0 < B) (h : ∀ r : Int, 0 ≤ r → r < B → Q (.int r s.toks) { s with toks := s.toks + 1 }) :
    wpAny (model prog w) A (binaryOp .Mod (.int a t) (.int b u)) Q E s := by
  subst he
  refine mod_int' (by omega) ?_
  exact h _ (by rw [fm (by omega)]; exact Int.emod_nonneg _ (by omega)) (by rw [fm (by omega)]; exact Int.emod_lt_of_pos _ hb)
local macro_rules | `(tactic| walk_at "call ref") => `(tactic| (k_here; (with_reducible show wpAny _ _ (call (Value.ref 64) [_, Value.int 1 _, _]) _ _ _); k_dflt (refine' use (c_greg _ _ _ _ ?h0) ?k1 ?k2 ?k3 ?k4 ?k5 ?kK ?kd ?ku ?_; (case k1 => k_asm); (case k2 => k_asm); (case k3 => k_asm); (case k4 => k_asm); (case k5 => k_asm); (case kK => first | exact rfl | assumption); (case h0 => tb_rel); (case kd => first | (refine' room1 ?a ?b; (case a => assumption); (case b => decide)) | ktr_room); (case ku => first | (refine' unit1 ?a ?b; (case a => assumption); (case b => decide)) | ktr_units); intro t9 h9 tk9 F9 N9; (try dsimp only); (try k_sweep); (try k_fold))))
local macro_rules | `(tactic| walk_at "call ref") => `(tactic| (k_here; (with_reducible show wpAny _ _ (call (Value.ref 270) [_, _]) _ _ _); k_dflt (refine' use (c_ny _ _ _ _ ?h0 ?h1) ?k1 ?k2 ?k3 ?k4 ?k5 ?kK ?kd ?ku ?_; (case k1 => k_asm); (case k2 => k_asm); (case k3 => k_asm); (case k4 => k_asm); (case k5 => k_asm); (case kK => first | exact rfl | assumption); (case h0 => tb_rel); (case h1 => tb_rel); (case kd => first | (refine' room1 ?a ?b; (case a => assumption); (case b => decide)) | ktr_room); (case ku => first | (refine' unit1 ?a ?b; (case a => assumption); (case b => decide)) | ktr_units); intro t9 h9 tk9 F9 N9; (try dsimp only); (try k_sweep); (try k_fold))))
local macro_rules | `(tactic| walk_at "call ref") => `(tactic| (k_here; (with_reducible show wpAny _ _ (call (Value.ref 275) [_, _]) _ _ _); k_dflt (refine' use (c_lh _ _ _ _ ?h0 ?h1) ?k1 ?k2 ?k3 ?k4 ?k5 ?kK ?kd ?ku ?_; (case k1 => k_asm); (case k2 => k_asm); (case k3 => k_asm); (case k4 => k_asm); (case k5 => k_asm); (case kK => first | exact rfl | assumption); (case h0 => tb_rel); (case h1 => tb_rel); (case kd => first | (refine' room1 ?a ?b; (case a => assumption); (case b => decide)) | ktr_room); (case ku => first | (refine' unit1 ?a ?b; (case a => assumption); (case b => decide)) | ktr_units); intro t9 h9 tk9 F9 N9; (try dsimp only); (try k_sweep); (try k_fold))))
local macro_rules | `(tactic| walk_at "call ref") => `(tactic| (k_here; (with_reducible show wpAny _ _ (call (Value.ref 282) [_, _, _, Value.int 30 _, _]) _ _ _); k_dflt (refine' use (c_begun0 _ _ _ _ _ _ _ _ ?h0 ?h1 ?h2 ?h3) ?k1 ?k2 ?k3 ?k4 ?k5 ?kK ?kd ?ku ?_; (case k1 => k_asm); (case k2 => k_asm); (case k3 => k_asm); (case k4 => k_asm); (case k5 => k_asm); (case kK => first | exact rfl | assumption); (case h0 => tb_rel); (case h1 => tb_rel); (case h2 => tb_rel); (case h3 => tb_rel); (case kd => first | (refine' room1 ?a ?b; (case a => assumption); (case b => decide)) | ktr_room); (case ku => first | (refine' unit1 ?a ?b; (case a => assumption); (case b => decide)) | ktr_units); intro t9 h9 tk9 F9 N9; (try dsimp only); (try k_sweep); (try k_fold))))
local macro_rules | `(tactic| walk_at "call ref") => `(tactic| (k_here; (with_reducible show wpAny _ _ (call (Value.ref 282) [_, _, _, Value.int 4 _, _]) _ _ _); k_dflt (refine' use (c_begun1 _ _ _ _ _ _ _ _ ?h0 ?h1 ?h2 ?h3) ?k1 ?k2 ?k3 ?k4 ?k5 ?kK ?kd ?ku ?_; (case k1 => k_asm); (case k2 => k_asm); (case k3 => k_asm); (case k4 => k_asm); (case k5 => k_asm); (case kK => first | exact rfl | assumption); (case h0 => tb_rel); (case h1 => tb_rel); (case h2 => tb_rel); (case h3 => tb_rel); (case kd => first | (refine' room1 ?a ?b; (case a => assumption); (case b => decide)) | ktr_room); (case ku => first | (refine' unit1 ?a ?b; (case a => assumption); (case b => decide)) | ktr_units); intro t9 h9 tk9 F9 N9; (try dsimp only); (try k_sweep); (try k_fold))))
local macro_rules | `(tactic| walk_at "call ref") => `(tactic| (k_here; (with_reducible show wpAny _ _ (call (Value.ref 258) [_, _]) _ _ _); k_dflt (refine' useW (c_withinW 1000000000 _ _ _ _ ?h0 ?h1) ?k1 ?k2 ?k3 ?k4 ?k5 ?kK ?kd ?ku ?_; (case k1 => k_asm); (case k2 => k_asm); (case k3 => k_asm); (case k4 => k_asm); (case k5 => k_asm); (case kK => first | exact rfl | assumption); (case h0 => decide); (case h1 => decide); (case kd => first | (refine' room1 ?a ?b; (case a => assumption); (case b => decide)) | ktr_room); (case ku => first | (refine' unit1 ?a ?b; (case a => assumption); (case b => decide)) | ktr_units); intro r9 t9 h9 tk9 b9 F9 N9; (try dsimp only at b9); (try dsimp only); (try k_sweep); (try k_fold))))
local macro_rules | `(tactic| walk_at "call ref") => `(tactic| (k_here; (with_reducible show wpAny _ _ (call (Value.ref 258) [_, _]) _ _ _); k_dflt (refine' useW (c_withinW 100000000000 _ _ _ _ ?h0 ?h1) ?k1 ?k2 ?k3 ?k4 ?k5 ?kK ?kd ?ku ?_; (case k1 => k_asm); (case k2 => k_asm); (case k3 => k_asm); (case k4 => k_asm); (case k5 => k_asm); (case kK => first | exact rfl | assumption); (case h0 => decide); (case h1 => decide); (case kd => first | (refine' room1 ?a ?b; (case a => assumption); (case b => decide)) | ktr_room); (case ku => first | (refine' unit1 ?a ?b; (case a => assumption); (case b => decide)) | ktr_units); intro r9 t9 h9 tk9 b9 F9 N9; (try dsimp only at b9); (try dsimp only); (try k_sweep); (try k_fold))))
local macro_rules | `(tactic| walk_at "call ref") => `(tactic| (k_here; (with_reducible show wpAny _ _ (call (Value.ref 201) [_]) _ _ _); k_dflt (refine' useT (c_fislK _ _ ?h0 ?h1) ?k1 ?k2 ?k3 ?k4 ?k5 ?kK ?kd ?ku ?_; (case k1 => k_asm); (case k2 => k_asm); (case k3 => k_asm); (case k4 => k_asm); (case k5 => k_asm); (case kK => first | exact rfl | assumption); (case h0 => tb_rel); (case h1 => tb_rel); (case kd => first | (refine' room1 ?a ?b; (case a => assumption); (case b => decide)) | ktr_room); (case ku => first | (refine' unit1 ?a ?b; (case a => assumption); (case b => decide)) | ktr_units); intro T9 t9 v9 w9 h9 tk9 F9 N9; (try dsimp only); (try k_sweep); (try k_fold))))
local macro_rules | `(tactic| walk_at "call ref") => `(tactic| (k_here; (with_reducible show wpAny _ _ (call (Value.ref 101) [_]) _ _ _); k_dflt (refine' useT (c_fcoptK _ _ ?h0 ?h1) ?k1 ?k2 ?k3 ?k4 ?k5 ?kK ?kd ?ku ?_; (case k1 => k_asm); (case k2 => k_asm); (case k3 => k_asm); (case k4 => k_asm); (case k5 => k_asm); (case kK => first | exact rfl | assumption); (case h0 => tb_rel); (case h1 => tb_rel); (case kd => first | (refine' room1 ?a ?b; (case a => assumption); (case b => decide)) | ktr_room); (case ku => first | (refine' unit1 ?a ?b; (case a => assumption); (case b => decide)) | ktr_units); intro T9 t9 v9 w9 h9 tk9 F9 N9; (try dsimp only); (try k_sweep); (try k_fold))))
local macro_rules | `(tactic| walk_at "call ref") => `(tactic| (k_here; (with_reducible show wpAny _ _ (call (Value.ref 230) [_]) _ _ _); k_dflt (refine' useT (c_fjulK _ _ ?h0 ?h1) ?k1 ?k2 ?k3 ?k4 ?k5 ?kK ?kd ?ku ?_; (case k1 => k_asm); (case k2 => k_asm); (case k3 => k_asm); (case k4 => k_asm); (case k5 => k_asm); (case kK => first | exact rfl | assumption); (case h0 => tb_rel); (case h1 => tb_rel); (case kd => first | (refine' room1 ?a ?b; (case a => assumption); (case b => decide)) | ktr_room); (case ku => first | (refine' unit1 ?a ?b; (case a => assumption); (case b => decide)) | ktr_units); intro T9 t9 v9 w9 h9 tk9 F9 N9; (try dsimp only); (try k_sweep); (try k_fold))))
local macro_rules | `(tactic| walk_at "eval Call Name") => `(tactic| (k_here; k_dflt (refine Call_ ?_)))
local macro_rules | `(tactic| walk_at "subscriptTail BinOp Subscript Add List Slice ref ref") => `(tactic| (k_here; walk_at "last subscriptTail"))
local macro_rules | `(tactic| walk_at "execs cons") => `(tactic| (k_here; (with_reducible refine wpAny_execs_cons ?_); (try dsimp only)))
local macro_rules | `(tactic| walk_at "binaryOp Mod int int") => `(tactic| (k_here; k_dflt (first | (refine' r_mod_any 1000000000 ?q0 ?q1 ?_; (case q0 => decide); (case q1 => decide)) | (refine' r_mod_any 100000000000 ?q0 ?q1 ?_; (case q0 => decide); (case q1 => decide)) | (refine' r_mod_any 39 ?q0 ?q1 ?_; (case q0 => decide); (case q1 => decide))); intro r9 r9a r9b; (try dsimp only)))
local macro_rules | `(tactic| walk_at "assign Tuple") => `(tactic| (k_here; (rename IntsAre _ (List.take 4 (List.take 4 _ ++ _)) => hI9); (have h9 := four_ints hI9); clear hI9; (obtain ⟨a9, b9, c9, d9, t91, t92, t93, t94, e9⟩ := h9); subst e9))
set_option maxHeartbeats 0 in
theorem the_law : PySem.Challenge.rw_ad5036_01.Holds := hd (by
  k_go0
  (show wpAny _ (ktrTop _ _ _ _ _ _ _ _ _ _) _ _ _ _)
  (rename Ground _ _ _ _ _ _ _ _ _ => zG; clear zG)
  (rename Glob _ _ _ _ _ _ _ _ => zG; clear zG)
  (rename TopE _ _ _ _ => zG; clear zG)
  (rename TopW _ _ _ => zG; clear zG)
  (rename LooseAre _ _ _ => zG; clear zG)
  (rename Tables _ _ _ _ => zG; clear zG)
  (rename BMod _ _ _ _ _ => zG; clear zG)
  (rename Flt.MathXP _ _ _ => zG; clear zG)
  (rename Heap.CodeRec _ _ _ => zG; clear zG)
  try (rename Dflts _ _ _ _ _ _ => zG; clear zG)
  all_goals try k_fold
  k_steps)
end
end
end Mine
theorem PySem.Challenge.cw_ad5036_01_holds : PySem.Challenge.rw_ad5036_01.Holds := by
  exact Mine.the_law
