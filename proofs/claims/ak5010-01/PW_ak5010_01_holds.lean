import PyProof.Rows.All
import Wide.All
import OpenK.AllK
import Wide.FinOn
import PySem.Challenge.RW_ak5010_01
open PySem PySem.W PyProof.Rows
set_option Elab.async false
set_option maxRecDepth 100000
set_option linter.unusedVariables false
set_option exponentiation.threshold 3000
set_option maxHeartbeats 8000000
namespace Mine
open_top hd for PySem.Challenge.rw_ak5010_01

section
open PySem PySem.Flt
open PySem.Float64 (decode val Right V dist pack infMag sgn)

/-! ### floats: rounding keeps between what can be said exactly -/

theorem rep (n j : Nat) (hn : n < 2 ^ 53) (hj : 53 ≤ j) (hj2 : j ≤ 1100) : ∃ t, t < infMag ∧ V t = n * 2 ^ j ∧ t ≤ 1102 * 2 ^ 52 := by
  have hi : infMag = 2047 * 2 ^ 52 := rfl
  by_cases h0 : n = 0
  · subst h0
    exact ⟨0, by omega, by rw [Float64.V_zero]; simp, by omega⟩
  · have h1 := Nat.log2_self_le h0
    have h2 := Nat.lt_log2_self (n := n)
    have hl : n.log2 < 53 := (Nat.log2_lt h0).mpr hn
    generalize n.log2 = l at *
    have e1 : 2 ^ 52 ≤ n * 2 ^ (52 - l) := by
      have := Nat.mul_le_mul_right (2 ^ (52 - l)) h1
      rw [← Nat.pow_add] at this
      rwa [show l + (52 - l) = 52 by omega] at this
    have e2 : n * 2 ^ (52 - l) < 2 ^ 53 := by
      have := Nat.mul_lt_mul_of_pos_right h2 (Nat.two_pow_pos (52 - l))
      rw [← Nat.pow_add] at this
      rwa [show l + 1 + (52 - l) = 53 by omega] at this
    refine ⟨(j - (52 - l)) * 2 ^ 52 + n * 2 ^ (52 - l), ?_, ?_, ?_⟩
    · omega
    · rw [Float64.V_at (by omega) (.inl e1), Nat.mul_assoc, ← Nat.pow_add]
      congr 2
      omega
    · omega

theorem V_inj {t t' : Nat} (h : V t = V t') : t = t' := by
  rcases Nat.lt_trichotomy t t' with q | q | q
  · have := Float64.V_lt q; omega
  · exact q
  · have := Float64.V_lt q; omega

theorem V_small {t : Nat} (h : t ≤ 1102 * 2 ^ 52) : V t < 2 ^ 1200 := by
  refine Nat.lt_of_le_of_lt (Float64.V_mono h) ?_
  decide +kernel

/-- the result is not over, when the exact value is at most something small -/
theorem right_fin {r : UInt64} {neg : Bool} {W D B : Nat} (h : Right r neg W D) (hD : 0 < D) (hB : B < 2 ^ 1200) (hW : W ≤ D * B) :
    ∃ t, r = pack neg t ∧ t < infMag ∧ ∀ t', dist W (D * V t) ≤ dist W (D * V t') := by
  obtain ⟨t, e, hle, hover, hn⟩ := h
  have hnot : ¬ D * ((2 ^ 54 - 1) * 2 ^ 2045) ≤ 2 * W := by
    intro q
    have h1 : D * ((2 ^ 54 - 1) * 2 ^ 2045) ≤ D * (2 * B) := by
      refine Nat.le_trans q ?_
      rw [Nat.mul_left_comm]
      exact Nat.mul_le_mul_left 2 hW
    have h2 := Nat.le_of_mul_le_mul_left h1 hD
    have h3 : (2 : Nat) ^ 1201 ≤ (2 ^ 54 - 1) * 2 ^ 2045 := by decide +kernel
    have h4 : (2 : Nat) ^ 1201 = 2 * 2 ^ 1200 := by decide +kernel
    omega
  have hlt : t < infMag := by
    have : t ≠ infMag := fun q => hnot (hover.mp q)
    omega
  exact ⟨t, e, hlt, fun t' => (hn hlt t').1⟩

theorem right_le {r : UInt64} {neg : Bool} {W D t1 : Nat} (hD : 0 < D) {t : Nat} (hn : ∀ t', dist W (D * V t) ≤ dist W (D * V t')) (h : W ≤ D * V t1) : V t ≤ V t1 := by
  rcases Nat.lt_or_ge (V t1) (V t) with q | q
  · have := hn t1
    have h2 := Nat.mul_lt_mul_of_pos_left q hD
    unfold dist at this
    omega
  · exact q
theorem right_ge {W D t1 : Nat} (hD : 0 < D) {t : Nat} (hn : ∀ t', dist W (D * V t) ≤ dist W (D * V t')) (h : D * V t1 ≤ W) : V t1 ≤ V t := by
  rcases Nat.lt_or_ge (V t) (V t1) with q | q
  · have := hn t1
    have h2 := Nat.mul_lt_mul_of_pos_left q hD
    unfold dist at this
    omega
  · exact q

theorem right_exact {r : UInt64} {neg : Bool} {W D t0 : Nat} (h : Right r neg W D) (hD : 0 < D) (hB : V t0 < 2 ^ 1200) (hW : W = D * V t0) : r = pack neg t0 := by
  obtain ⟨t, e, _, hn⟩ := right_fin h hD hB (Nat.le_of_eq hW)
  have h1 := right_le (r := r) (neg := neg) hD hn (Nat.le_of_eq hW)
  have h2 := right_ge hD hn (Nat.le_of_eq hW.symm)
  rw [e, V_inj (Nat.le_antisymm h1 h2)]

/-- the float of n/2 -/
def hf (n : Int) : UInt64 := Float64.ofFrac (decide (n < 0)) n.natAbs 2

theorem hf_right (n : Int) : Right (hf n) (decide (n < 0)) (n.natAbs * 2 ^ 1073) 1 :=
  Float64.ofFrac_right (by decide) (by rw [Nat.mul_one, Nat.mul_assoc, ← Nat.pow_succ]) (by decide)

theorem hf_pack {n : Int} (hn : n.natAbs < 2 ^ 53) : ∃ t, hf n = pack (decide (n < 0)) t ∧ t < infMag ∧ V t = n.natAbs * 2 ^ 1073 ∧ V t < 2 ^ 1200 := by
  obtain ⟨t, h1, h2, h3⟩ := rep n.natAbs 1073 hn (by decide) (by decide)
  exact ⟨t, right_exact (hf_right n) (by decide) (V_small h3) (by rw [h2, Nat.one_mul]), h1, h2, V_small h3⟩

theorem sgn_abs (n : Int) (k : Nat) : sgn (decide (n < 0)) (n.natAbs * k) = n * k := by
  rw [Float64.sgn_mul]
  congr 1
  unfold sgn
  by_cases h : n < 0 <;> simp [h] <;> omega

theorem hf_val {n : Int} (hn : n.natAbs < 2 ^ 53) : ∃ m e, decode (hf n) = .fin (decide (n < 0)) m e ∧ val (hf n) = n * ((2 ^ 1073 : Nat) : Int) := by
  obtain ⟨t, e, h1, h2, _⟩ := hf_pack hn
  obtain ⟨m, ex, hd, _⟩ := Float64.decode_pack (decide (n < 0)) h1
  refine ⟨m, ex, by rw [e]; exact hd, ?_⟩
  rw [e, Float64.val_pack _ h1, h2, sgn_abs]

/-- whatever rounds n/2 rightly is hf n -/
theorem eq_hf {r : UInt64} {neg : Bool} {W D : Nat} {n : Int} (hn : n.natAbs < 2 ^ 53) (h : Right r neg W D) (hD : 0 < D) (hneg : neg = decide (n < 0)) (hW : W = D * (n.natAbs * 2 ^ 1073)) : r = hf n := by
  obtain ⟨t, e, _, h2, h3⟩ := hf_pack hn
  rw [e, ← hneg]
  exact right_exact h hD h3 (by rw [hW, h2])

theorem hf_zero : hf 0 = Float64.zero false := by decide +kernel

theorem ofInt_hf {i : Int} (hi : i.natAbs < 2 ^ 52) : Float64.ofInt i = hf (2 * i) := by
  refine eq_hf (by omega) (Float64.ofInt_right i) (by decide) ?_ ?_
  · apply decide_eq_decide.mpr; omega
  · rw [Nat.one_mul, show (2 * i).natAbs = i.natAbs * 2 by omega, Nat.mul_assoc, ← Nat.pow_succ']

abbrev K1 : Nat := 2 ^ 1073
theorem K1_pos : (0 : Int) < ((2 ^ 1073 : Nat) : Int) := by exact Int.ofNat_lt.mpr (Nat.two_pow_pos _)

theorem lt_scale {a b K : Int} (hK : 0 < K) : a * K < b * K ↔ a < b := by
  constructor
  · intro h; exact Int.lt_of_mul_lt_mul_right h (Int.le_of_lt hK)
  · intro h; exact Int.mul_lt_mul_of_pos_right h hK
theorem le_scale {a b K : Int} (hK : 0 < K) : a * K ≤ b * K ↔ a ≤ b := by
  constructor
  · intro h; exact Int.le_of_mul_le_mul_right h hK
  · intro h; exact Int.mul_le_mul_of_nonneg_right h (Int.le_of_lt hK)

theorem add_hf {a b : Int} (ha : a.natAbs < 2 ^ 52) (hb : b.natAbs < 2 ^ 52) : Float64.add (hf a) (hf b) = hf (a + b) := by
  obtain ⟨m, e, hd, hv⟩ := hf_val (n := a) (by omega)
  obtain ⟨k, f, hd', hv'⟩ := hf_val (n := b) (by omega)
  have h := Float64.add_right hd hd'
  rw [hv, hv', ← Int.add_mul] at h
  generalize hK : ((2 ^ 1073 : Nat) : Int) = K at h
  have hp : 0 < K := hK ▸ K1_pos
  by_cases h0 : a + b = 0
  · rw [h0, Int.zero_mul] at h
    rw [h.1 rfl, h0, hf_zero]
    congr 1
    by_cases a < 0 <;> by_cases b < 0 <;> simp_all <;> omega
  · have hne : (a + b) * K ≠ 0 := Int.mul_ne_zero h0 (by omega)
    refine eq_hf (by omega) (h.2 hne) (by decide) ?_ ?_
    · apply decide_eq_decide.mpr
      have := lt_scale (a := a + b) (b := 0) hp
      rwa [Int.zero_mul] at this
    · rw [Nat.one_mul, Int.natAbs_mul, ← hK, Int.natAbs_natCast]

theorem sub_hf {a b : Int} (ha : a.natAbs < 2 ^ 52) (hb : b.natAbs < 2 ^ 52) : Float64.sub (hf a) (hf b) = hf (a - b) := by
  obtain ⟨m, e, hd, hv⟩ := hf_val (n := a) (by omega)
  obtain ⟨k, f, hd', hv'⟩ := hf_val (n := b) (by omega)
  have h := Float64.sub_right hd hd'
  rw [hv, hv', ← Int.sub_mul] at h
  generalize hK : ((2 ^ 1073 : Nat) : Int) = K at h
  have hp : 0 < K := hK ▸ K1_pos
  by_cases h0 : a - b = 0
  · rw [h0, Int.zero_mul] at h
    rw [h.1 rfl, h0, hf_zero]
    congr 1
    by_cases a < 0 <;> by_cases b < 0 <;> simp_all <;> omega
  · have hne : (a - b) * K ≠ 0 := Int.mul_ne_zero h0 (by omega)
    refine eq_hf (by omega) (h.2 hne) (by decide) ?_ ?_
    · apply decide_eq_decide.mpr
      have := lt_scale (a := a - b) (b := 0) hp
      rwa [Int.zero_mul] at this
    · rw [Nat.one_mul, Int.natAbs_mul, ← hK, Int.natAbs_natCast]


/-! ### floors, ceilings and bounds in units of 2 ^ (-20) -/

theorem nat_pow_pos (k : Nat) : (0 : Int) < ((2 ^ k : Nat) : Int) := Int.ofNat_lt.mpr (Nat.two_pow_pos _)

theorem floorOf_val {x : UInt64} {s : Bool} {m : Nat} {e : Int} (h : decode x = .fin s m e) : Float64.floorOf s m e = val x / ((2 ^ 1074 : Nat) : Int) := by
  have he := Float64.decode_ge h
  rw [Float64.val_eq h, Float64.sgn_mul]
  unfold Float64.floorOf
  have hpow : ∀ n : Nat, (2 : Int) ^ n = ((2 ^ n : Nat) : Int) := fun n => by simp
  split
  · rename_i q
    have e1 : (e + 1074).toNat = e.toNat + 1074 := by omega
    rw [hpow, e1, Nat.pow_add, Int.natCast_mul, ← Int.mul_assoc, Int.mul_ediv_cancel _ (by have := nat_pow_pos 1074; omega)]
  · rename_i q
    rw [hpow, Int.fdiv_eq_ediv_of_nonneg _ (Int.le_of_lt (nat_pow_pos _))]
    have e1 : (2 : Nat) ^ 1074 = 2 ^ (-e).toNat * 2 ^ (e + 1074).toNat := by rw [← Nat.pow_add]; congr 1; omega
    rw [e1, Int.natCast_mul, Int.mul_ediv_mul_of_pos_left _ _ (nat_pow_pos _)]

theorem floor_val {x : UInt64} {s : Bool} {m : Nat} {e : Int} (h : decode x = .fin s m e) : toInt Float64.floorOf x = val x / ((2 ^ 1074 : Nat) : Int) := by
  rw [toInt_fin h, floorOf_val h]

theorem ceilOf_val {x : UInt64} {s : Bool} {m : Nat} {e : Int} (h : decode x = .fin s m e) : Float64.ceilOf s m e = -((-val x) / ((2 ^ 1074 : Nat) : Int)) := by
  unfold Float64.ceilOf
  rw [floorOf_val (Float64.neg_decode h), Float64.neg_val h]

theorem ceil_val {x : UInt64} {s : Bool} {m : Nat} {e : Int} (h : decode x = .fin s m e) : toInt Float64.ceilOf x = -((-val x) / ((2 ^ 1074 : Nat) : Int)) := by
  rw [toInt_fin h, ceilOf_val h]

def U : Int := ((2 ^ 1054 : Nat) : Int)
theorem U_pos : 0 < U := nat_pow_pos 1054
theorem U_unit : ((2 ^ 1074 : Nat) : Int) = 1048576 * U := by
  unfold U
  rw [show (1048576 : Int) = ((2 ^ 20 : Nat) : Int) by decide, ← Int.natCast_mul, ← Nat.pow_add]
theorem U_half : ((2 ^ 1073 : Nat) : Int) = 524288 * U := by
  unfold U
  rw [show (524288 : Int) = ((2 ^ 19 : Nat) : Int) by decide, ← Int.natCast_mul, ← Nat.pow_add]

/-- x is a number between lo and hi, both in 2 ^ (-20) -/
def FB (x : UInt64) (lo hi : Int) : Prop := (∃ s m e, decode x = .fin s m e) ∧ lo * U ≤ val x ∧ val x ≤ hi * U

theorem rep_U {n : Int} (h : n.natAbs < 2 ^ 53) : ∃ t, V t < 2 ^ 1200 ∧ (V t : Int) = (n.natAbs : Int) * U := by
  obtain ⟨t, _, h2, h3⟩ := rep n.natAbs 1054 h (by decide) (by decide)
  exact ⟨t, V_small h3, by rw [h2, Int.natCast_mul]; rfl⟩

theorem fb_of_right {r : UInt64} {neg : Bool} {W D : Nat} {lo hi : Int} (h : Right r neg W D) (hD : 0 < D) (hlo : lo.natAbs < 2 ^ 53) (hhi : hi.natAbs < 2 ^ 53)
    (h1 : lo * U * D ≤ sgn neg W) (h2 : sgn neg W ≤ hi * U * D) : FB r lo hi := by
  obtain ⟨tl, bl, vl⟩ := rep_U hlo
  obtain ⟨th, bh, vh⟩ := rep_U hhi
  have hDi : (0 : Int) < (D : Int) := Int.ofNat_lt.mpr hD
  have hU := U_pos
  have key : ∀ (n : Int) (t : Nat), (V t : Int) = (n.natAbs : Int) * U → (0 ≤ n → n * U * D = ((D * V t : Nat) : Int)) ∧ (n ≤ 0 → n * U * D = -((D * V t : Nat) : Int)) := by
    intro n t e
    constructor
    · intro hn
      rw [Int.natCast_mul, e, show ((n.natAbs : Nat) : Int) = n by omega, Int.mul_comm]
    · intro hn
      rw [Int.natCast_mul, e, show ((n.natAbs : Nat) : Int) = -n by omega, Int.neg_mul, Int.mul_neg, Int.neg_neg, Int.mul_comm]
  have kl := key lo tl vl
  have kh := key hi th vh
  have sg : ∀ (n : Int), n < 0 → n * U * D < 0 := fun n hn => Int.mul_neg_of_neg_of_pos (Int.mul_neg_of_neg_of_pos hn hU) hDi
  have sg' : ∀ (n : Int), 0 < n → 0 < n * U * D := fun n hn => Int.mul_pos (Int.mul_pos hn hU) hDi
  have vU : ∀ (n : Int) (t : Nat), (V t : Int) = (n.natAbs : Int) * U → (0 ≤ n → n * U = (V t : Int)) ∧ (n ≤ 0 → n * U = -(V t : Int)) := by
    intro n t e
    constructor
    · intro hn; rw [e, show ((n.natAbs : Nat) : Int) = n by omega]
    · intro hn; rw [e, show ((n.natAbs : Nat) : Int) = -n by omega, Int.neg_mul, Int.neg_neg]
  have ul := vU lo tl vl
  have uh := vU hi th vh
  cases neg with
  | false =>
    have e0 : sgn false W = (W : Int) := rfl
    rw [e0] at h1 h2
    have hh0 : 0 ≤ hi := by
      rcases Int.lt_or_le hi 0 with q | q
      · have := sg hi q; omega
      · exact q
    have hW : W ≤ D * V th := by have := kh.1 hh0; omega
    obtain ⟨t, er, hf, hn⟩ := right_fin h hD bh hW
    obtain ⟨m, e, hd, hv⟩ := Float64.decode_pack false hf
    refine ⟨⟨_, m, e, er ▸ hd⟩, ?_, ?_⟩
    · rw [er, Float64.val_pack _ hf]
      show lo * U ≤ (V t : Int)
      rcases Int.lt_or_le lo 0 with q | q
      · have := ul.2 (by omega); omega
      · have := ul.1 q
        have := kl.1 q
        have := right_ge (t1 := tl) hD hn (by omega)
        omega
    · rw [er, Float64.val_pack _ hf]
      show (V t : Int) ≤ hi * U
      have := right_le (r := r) (neg := false) hD hn hW
      have := uh.1 hh0
      omega
  | true =>
    have e0 : sgn true W = -(W : Int) := rfl
    rw [e0] at h1 h2
    have hh0 : lo ≤ 0 := by
      rcases Int.lt_or_le 0 lo with q | q
      · have := sg' lo q; omega
      · exact q
    have hW : W ≤ D * V tl := by have := kl.2 hh0; omega
    obtain ⟨t, er, hf, hn⟩ := right_fin h hD bl hW
    obtain ⟨m, e, hd, hv⟩ := Float64.decode_pack true hf
    refine ⟨⟨_, m, e, er ▸ hd⟩, ?_, ?_⟩
    · rw [er, Float64.val_pack _ hf]
      show lo * U ≤ -(V t : Int)
      have := right_le (r := r) (neg := true) hD hn hW
      have := ul.2 hh0
      omega
    · rw [er, Float64.val_pack _ hf]
      show -(V t : Int) ≤ hi * U
      rcases Int.lt_or_le 0 hi with q | q
      · have := uh.1 (by omega); omega
      · have := uh.2 q
        have := kh.2 q
        have := right_ge (t1 := th) hD hn (by omega)
        omega

theorem fb_hf {a : Int} (ha : a.natAbs < 2 ^ 53) : FB (hf a) (a * 524288) (a * 524288) := by
  obtain ⟨m, e, hd, hv⟩ := hf_val ha
  refine ⟨⟨_, m, e, hd⟩, ?_, ?_⟩ <;> rw [hv, U_half, Int.mul_assoc] <;> exact Int.le_refl _

theorem fb_weaken {x : UInt64} {lo hi lo' hi' : Int} (h : FB x lo hi) (h1 : lo' ≤ lo) (h2 : hi ≤ hi') : FB x lo' hi' :=
  ⟨h.1, Int.le_trans (Int.mul_le_mul_of_nonneg_right h1 (Int.le_of_lt U_pos)) h.2.1, Int.le_trans h.2.2 (Int.mul_le_mul_of_nonneg_right h2 (Int.le_of_lt U_pos))⟩

theorem fb_order {x : UInt64} {lo hi : Int} (h : FB x lo hi) : lo ≤ hi := (le_scale U_pos).mp (Int.le_trans h.2.1 h.2.2)

theorem fb_zero (a : Bool) : FB (Float64.zero a) 0 0 := by
  have : decode (Float64.zero a) = .fin a 0 (-1074) := by cases a <;> kernel_rfl
  refine ⟨⟨_, _, _, this⟩, ?_, ?_⟩ <;> rw [Float64.val_eq this] <;> cases a <;> simp [sgn]

theorem sgn_dec (v : Int) : sgn (decide (v < 0)) v.natAbs = v := by
  unfold sgn
  by_cases h : v < 0 <;> simp [h] <;> omega

theorem fb_add {x y : UInt64} {lo hi lo' hi' : Int} (hx : FB x lo hi) (hy : FB y lo' hi') (hl : (lo + lo').natAbs < 2 ^ 53) (hh : (hi + hi').natAbs < 2 ^ 53) : FB (Float64.add x y) (lo + lo') (hi + hi') := by
  obtain ⟨⟨s, m, e, hd⟩, h1, h2⟩ := hx
  obtain ⟨⟨s', m', e', hd'⟩, h1', h2'⟩ := hy
  have h := Float64.add_right hd hd'
  by_cases h0 : val x + val y = 0
  · rw [h.1 h0]
    refine fb_weaken (fb_zero _) ?_ ?_
    · refine (le_scale U_pos).mp ?_
      rw [Int.add_mul, Int.zero_mul]; omega
    · refine (le_scale U_pos).mp ?_
      rw [Int.add_mul, Int.zero_mul]; omega
  · refine fb_of_right (h.2 h0) (by decide) hl hh ?_ ?_
    · rw [sgn_dec, Int.add_mul]; omega
    · rw [sgn_dec, Int.add_mul]; omega

theorem fb_sub {x y : UInt64} {lo hi lo' hi' : Int} (hx : FB x lo hi) (hy : FB y lo' hi') (hl : (lo - hi').natAbs < 2 ^ 53) (hh : (hi - lo').natAbs < 2 ^ 53) : FB (Float64.sub x y) (lo - hi') (hi - lo') := by
  obtain ⟨⟨s, m, e, hd⟩, h1, h2⟩ := hx
  obtain ⟨⟨s', m', e', hd'⟩, h1', h2'⟩ := hy
  have h := Float64.sub_right hd hd'
  by_cases h0 : val x - val y = 0
  · rw [h.1 h0]
    refine fb_weaken (fb_zero _) ?_ ?_
    · refine (le_scale U_pos).mp ?_
      rw [Int.sub_mul, Int.zero_mul]; omega
    · refine (le_scale U_pos).mp ?_
      rw [Int.sub_mul, Int.zero_mul]; omega
  · refine fb_of_right (h.2 h0) (by decide) hl hh ?_ ?_
    · rw [sgn_dec, Int.sub_mul]; omega
    · rw [sgn_dec, Int.sub_mul]; omega

theorem sgn_xor_mul {x y : UInt64} {a b : Bool} {m k : Nat} {e f : Int} (hx : decode x = .fin a m e) (hy : decode y = .fin b k f) : sgn (a != b) ((val x).natAbs * (val y).natAbs) = val x * val y := by
  rw [Float64.val_natAbs hx, Float64.val_natAbs hy, Float64.val_eq hx, Float64.val_eq hy]
  generalize m * 2 ^ (e + 1074).toNat = p
  generalize k * 2 ^ (f + 1074).toNat = q
  cases a <;> cases b <;> simp [sgn, Int.neg_mul, Int.mul_neg]

/-- a product: the bounds are what the exact product keeps -/
theorem fb_mul {x y : UInt64} {lo hi : Int} (fx : ∃ s m e, decode x = .fin s m e) (fy : ∃ s m e, decode y = .fin s m e) (hlo : lo.natAbs < 2 ^ 53) (hhi : hi.natAbs < 2 ^ 53)
    (h1 : lo * U * ((2 ^ 1074 : Nat) : Int) ≤ val x * val y) (h2 : val x * val y ≤ hi * U * ((2 ^ 1074 : Nat) : Int)) : FB (Float64.mul x y) lo hi := by
  obtain ⟨s, m, e, hd⟩ := fx
  obtain ⟨s', m', e', hd'⟩ := fy
  exact fb_of_right (Float64.mul_right hd hd') (Nat.two_pow_pos _) hlo hhi (by rw [sgn_xor_mul hd hd']; exact h1) (by rw [sgn_xor_mul hd hd']; exact h2)

theorem sgn_scale (b : Bool) (n k : Nat) : sgn b (n * k) = sgn b n * (k : Int) := Float64.sgn_mul b n k

/-- a quotient by something positive -/
theorem fb_div {x y : UInt64} {lo hi : Int} (fx : ∃ s m e, decode x = .fin s m e) (fy : ∃ m e, decode y = .fin false m e) (hy : 0 < val y) (hlo : lo.natAbs < 2 ^ 53) (hhi : hi.natAbs < 2 ^ 53)
    (h1 : lo * U * val y ≤ val x * ((2 ^ 1074 : Nat) : Int)) (h2 : val x * ((2 ^ 1074 : Nat) : Int) ≤ hi * U * val y) : FB (Float64.div x y) lo hi := by
  obtain ⟨s, m, e, hd⟩ := fx
  obtain ⟨m', e', hd'⟩ := fy
  have hk : m' ≠ 0 := by
    rintro rfl
    rw [Float64.val_eq hd'] at hy
    simp [sgn] at hy
  have hy2 : ((val y).natAbs : Int) = val y := by omega
  have hs : sgn (s != false) ((val x).natAbs * 2 ^ 1074) = val x * ((2 ^ 1074 : Nat) : Int) := by
    rw [sgn_scale]
    congr 1
    rw [Float64.val_natAbs hd, Float64.val_eq hd]
    cases s <;> rfl
  exact fb_of_right (Float64.div_right hd hd' hk) (by omega) hlo hhi (by rw [hs, hy2]; exact h1) (by rw [hs, hy2]; exact h2)

theorem fb_floor {x : UInt64} {lo hi : Int} (h : FB x lo hi) : lo / 1048576 ≤ toInt Float64.floorOf x ∧ toInt Float64.floorOf x ≤ hi / 1048576 := by
  obtain ⟨⟨s, m, e, hd⟩, h1, h2⟩ := h
  rw [floor_val hd, U_unit]
  have hU := U_pos
  constructor
  · rw [← Int.mul_ediv_mul_of_pos_left lo 1048576 hU]
    exact Int.ediv_le_ediv (by omega) h1
  · rw [← Int.mul_ediv_mul_of_pos_left hi 1048576 hU]
    exact Int.ediv_le_ediv (by omega) h2

theorem fb_ceil {x : UInt64} {lo hi : Int} (h : FB x lo hi) : -((-lo) / 1048576) ≤ toInt Float64.ceilOf x ∧ toInt Float64.ceilOf x ≤ -((-hi) / 1048576) := by
  obtain ⟨⟨s, m, e, hd⟩, h1, h2⟩ := h
  rw [ceil_val hd, U_unit]
  have hU := U_pos
  constructor
  · rw [← Int.mul_ediv_mul_of_pos_left (-lo) 1048576 hU, Int.neg_mul]
    have := Int.ediv_le_ediv (c := 1048576 * U) (by omega) (show -val x ≤ -(lo * U) by omega)
    omega
  · rw [← Int.mul_ediv_mul_of_pos_left (-hi) 1048576 hU, Int.neg_mul]
    have := Int.ediv_le_ediv (c := 1048576 * U) (by omega) (show -(hi * U) ≤ -val x by omega)
    omega

theorem fb_trunc {x : UInt64} {n : Int} (h : FB x (n * 1048576) (n * 1048576)) : toInt Float64.truncOf x = n := by
  have hf := fb_floor h
  have hc := fb_ceil h
  obtain ⟨⟨s, m, e, hd⟩, h1, h2⟩ := h
  rw [toInt_fin hd] at hf hc ⊢
  unfold Float64.truncOf
  split <;> omega

theorem cmp_lt_iff (a b : Int) : (some (compare a b) == some Ordering.lt) = decide (a < b) := by
  rcases Int.lt_trichotomy a b with h | h | h
  · rw [Int.compare_eq_lt.mpr h]; simp [h]
  · subst h; simp
  · rw [Int.compare_eq_gt.mpr h]
    have : ¬ a < b := by omega
    simp [this]
theorem cmp_gt_iff (a b : Int) : (some (compare a b) == some Ordering.gt) = decide (b < a) := by
  rcases Int.lt_trichotomy a b with h | h | h
  · rw [Int.compare_eq_lt.mpr h]
    have : ¬ b < a := by omega
    simp [this]
  · subst h; simp
  · rw [Int.compare_eq_gt.mpr h]; simp [h]
theorem cmp_eq_iff (a b : Int) : (some (compare a b) == some Ordering.eq) = decide (a = b) := by
  rcases Int.lt_trichotomy a b with h | h | h
  · rw [Int.compare_eq_lt.mpr h]
    have : ¬ a = b := by omega
    simp [this]
  · subst h; simp
  · rw [Int.compare_eq_gt.mpr h]
    have : ¬ a = b := by omega
    simp [this]

theorem unit_scale (i : Int) : i * 2 ^ 1074 = i * 1048576 * U := by
  rw [show (2 : Int) ^ 1074 = ((2 ^ 1074 : Nat) : Int) by simp, U_unit, Int.mul_assoc]

/-- a number against an int -/
theorem fb_cmpInt {x : UInt64} {lo hi : Int} (h : FB x lo hi) (i : Int) :
    (hi < i * 1048576 → Float64.cmpInt x i = some .lt) ∧ (i * 1048576 < lo → Float64.cmpInt x i = some .gt) ∧ (i * 1048576 ≤ lo → (Float64.cmpInt x i == some .lt) = false) ∧ (i * 1048576 ≤ lo → (Float64.cmpInt x i == some .gt || Float64.cmpInt x i == some .eq) = true) := by
  obtain ⟨⟨s, m, e, hd⟩, h1, h2⟩ := h
  rw [Float64.cmpInt_right hd, unit_scale]
  have hU := U_pos
  refine ⟨fun q => ?_, fun q => ?_, fun q => ?_, fun q => ?_⟩
  · have := (lt_scale hU).mpr q
    rw [Int.compare_eq_lt.mpr (by omega)]
  · have := (lt_scale hU).mpr q
    rw [Int.compare_eq_gt.mpr (by omega)]
  · have := (le_scale hU).mpr q
    rw [cmp_lt_iff]
    exact decide_eq_false (by omega)
  · have := (le_scale hU).mpr q
    rw [cmp_gt_iff, cmp_eq_iff, ← Bool.decide_or]
    exact decide_eq_true (by omega)

theorem cmpInt_hf {a : Int} (ha : a.natAbs < 2 ^ 53) (i : Int) : Float64.cmpInt (hf a) i = some (compare a (2 * i)) := by
  obtain ⟨m, e, hd, hv⟩ := hf_val ha
  rw [Float64.cmpInt_right hd, hv, unit_scale, U_half]
  have hU := U_pos
  have e1 : a * (524288 * U) = a * (524288 * U) := rfl
  have e2 : i * 1048576 * U = (2 * i) * (524288 * U) := by rw [← Int.mul_assoc]; congr 1; omega
  rw [e2]
  have hK : (0 : Int) < 524288 * U := by omega
  generalize 524288 * U = K at *
  congr 1
  rcases Int.lt_trichotomy a (2 * i) with h | h | h
  · rw [Int.compare_eq_lt.mpr h, Int.compare_eq_lt.mpr ((lt_scale hK).mpr h)]
  · rw [h]; simp
  · rw [Int.compare_eq_gt.mpr h, Int.compare_eq_gt.mpr ((lt_scale hK).mpr h)]

theorem cmp_hf {a b : Int} (ha : a.natAbs < 2 ^ 53) (hb : b.natAbs < 2 ^ 53) : Float64.cmp (hf a) (hf b) = some (compare a b) := by
  obtain ⟨m, e, hd, hv⟩ := hf_val ha
  obtain ⟨m', e', hd', hv'⟩ := hf_val hb
  rw [Float64.cmp_right hd hd', hv, hv']
  have hK := nat_pow_pos 1073
  generalize ((2 ^ 1073 : Nat) : Int) = K at *
  congr 1
  rcases Int.lt_trichotomy a b with h | h | h
  · rw [Int.compare_eq_lt.mpr h, Int.compare_eq_lt.mpr ((lt_scale hK).mpr h)]
  · rw [h]; simp
  · rw [Int.compare_eq_gt.mpr h, Int.compare_eq_gt.mpr ((lt_scale hK).mpr h)]

theorem floor_hf {a : Int} (ha : a.natAbs < 2 ^ 53) : toInt Float64.floorOf (hf a) = a / 2 := by
  have := fb_floor (fb_hf ha)
  omega
theorem trunc_hf {a : Int} (ha : (2 * a).natAbs < 2 ^ 53) : toInt Float64.truncOf (hf (2 * a)) = a :=
  fb_trunc (fb_weaken (fb_hf ha) (by omega) (by omega))

theorem ofInt_fin {b : Int} (hb : b.natAbs < 2 ^ 52) : ∃ m e, decode (Float64.ofInt b) = .fin (decide (b < 0)) m e ∧ val (Float64.ofInt b) = b * 1048576 * U := by
  rw [ofInt_hf hb]
  obtain ⟨m, e, hd, hv⟩ := hf_val (n := 2 * b) (by omega)
  refine ⟨m, e, ?_, ?_⟩
  · rw [hd]; congr 1; apply decide_eq_decide.mpr; omega
  · rw [hv, U_half, ← Int.mul_assoc]; congr 1; omega

/-- a float of halves over a positive int: its bounds -/
theorem fb_hf_div {a b lo hi : Int} (ha : a.natAbs < 2 ^ 53) (hb : 0 < b) (hb2 : b < 2 ^ 52) (hlo : lo.natAbs < 2 ^ 53) (hhi : hi.natAbs < 2 ^ 53) (h1 : lo * b ≤ a * 524288) (h2 : a * 524288 ≤ hi * b) :
    FB (Float64.div (hf a) (Float64.ofInt b)) lo hi := by
  obtain ⟨m, e, hd, hv⟩ := hf_val ha
  obtain ⟨m', e', hd', hv'⟩ := ofInt_fin (b := b) (by omega)
  have hU := U_pos
  have hb3 : decide (b < 0) = false := decide_eq_false (by omega)
  refine fb_div ⟨_, _, _, hd⟩ ⟨m', e', by rw [hd', hb3]⟩ (by rw [hv']; exact Int.mul_pos (by omega) hU) hlo hhi ?_ ?_
  · rw [hv, hv', U_half, U_unit]
    have : lo * U * (b * 1048576 * U) = lo * b * (1048576 * U * U) := by ac_rfl
    rw [this]
    have : a * (524288 * U) * (1048576 * U) = a * 524288 * (1048576 * U * U) := by ac_rfl
    rw [this]
    exact Int.mul_le_mul_of_nonneg_right h1 (Int.le_of_lt (Int.mul_pos (by omega) hU))
  · rw [hv, hv', U_half, U_unit]
    have : hi * U * (b * 1048576 * U) = hi * b * (1048576 * U * U) := by ac_rfl
    rw [this]
    have : a * (524288 * U) * (1048576 * U) = a * 524288 * (1048576 * U * U) := by ac_rfl
    rw [this]
    exact Int.mul_le_mul_of_nonneg_right h2 (Int.le_of_lt (Int.mul_pos (by omega) hU))
end

section
open PySem PySem.Flt
open PySem.Float64 (decode val Right V dist pack infMag sgn)

theorem ofBin_right' {neg : Bool} {M : Nat} {g : Int} (hg : -1074 ≤ g) : Right (Float64.ofBin neg M g) neg (M * 2 ^ (g + 1074).toNat) 1 := by
  unfold Float64.ofBin
  refine Float64.ofFrac_right (Float64.shift_pos _ _ _ (by decide)) ?_ (by decide)
  have := Float64.shift_one M g 1074 (by omega)
  rw [Nat.mul_one]
  exact this

theorem fmod_right {x y : UInt64} {a b : Bool} {m k : Nat} {e f : Int} (hx : decode x = .fin a m e) (hy : decode y = .fin b k f) (hk : k ≠ 0) :
    Right (Float64.fmod x y) a ((val x).natAbs % (val y).natAbs) 1 := by
  have he := Float64.decode_ge hx
  have hf := Float64.decode_ge hy
  have hm : Float64.fmod x y = Float64.ofBin a ((m * 2 ^ (e - min e f).toNat) % (k * 2 ^ (f - min e f).toNat)) (min e f) := by
    unfold Float64.fmod
    rw [hx, hy]
    simp only
    rw [if_neg (by simpa using hk)]
    rfl
  rw [hm, Float64.val_natAbs hx, Float64.val_natAbs hy]
  have e1 : m * 2 ^ (e + 1074).toNat = m * 2 ^ (e - min e f).toNat * 2 ^ (min e f + 1074).toNat := by
    rw [Nat.mul_assoc, ← Nat.pow_add]; congr 2; omega
  have e2 : k * 2 ^ (f + 1074).toNat = k * 2 ^ (f - min e f).toNat * 2 ^ (min e f + 1074).toNat := by
    rw [Nat.mul_assoc, ← Nat.pow_add]; congr 2; omega
  rw [e1, e2, Nat.mul_mod_mul_right]
  exact ofBin_right' (by omega)

theorem divmod_snd (x y : UInt64) : (Float64.divmod x y).snd =
    if Float64.isZero (Float64.fmod x y) then Float64.copysign (Float64.zero false) y
    else if Float64.lt y (Float64.zero false) != Float64.lt (Float64.fmod x y) (Float64.zero false) then Float64.add (Float64.fmod x y) y else Float64.fmod x y := by
  unfold Float64.divmod
  simp only
  split
  · rfl
  · split <;> rfl

theorem zero_dec : decode (Float64.zero false) = .fin false 0 (-1074) := by kernel_rfl
theorem zero_val : val (Float64.zero false) = 0 := by rw [Float64.val_eq zero_dec]; rfl

theorem isZero_val {x : UInt64} {a : Bool} {m : Nat} {e : Int} (hx : decode x = .fin a m e) : Float64.isZero x = decide (val x = 0) := by
  unfold Float64.isZero
  rw [hx]
  have hv := Float64.val_natAbs hx
  have hp := Nat.two_pow_pos (e + 1074).toNat
  cases m with
  | zero =>
    have : val x = 0 := by rw [Nat.zero_mul] at hv; omega
    simp [this]
  | succ m =>
    have : val x ≠ 0 := by
      intro q
      rw [q, Int.natAbs_zero] at hv
      have := Nat.mul_pos (Nat.succ_pos m) hp
      rw [← hv] at this
      exact Nat.lt_irrefl _ this
    simp [this]

theorem lt_val {x y : UInt64} {a b : Bool} {m k : Nat} {e f : Int} (hx : decode x = .fin a m e) (hy : decode y = .fin b k f) : Float64.lt x y = decide (val x < val y) := by
  unfold Float64.lt
  rw [Float64.cmp_right hx hy]
  exact cmp_lt_iff _ _

theorem copysign_pos {y : UInt64} {m : Nat} {e : Int} (hy : decode y = .fin false m e) : Float64.copysign (Float64.zero false) y = Float64.zero false := by
  have hs : Float64.signBit y = false := by
    unfold decode at hy
    unfold Float64.signBit
    simp only at hy
    split at hy
    · split at hy <;> cases hy
    · split at hy
      · injection hy
      · injection hy
  have hn : Float64.isNaN (Float64.zero false) = false := by
    unfold Float64.isNaN; rw [zero_dec]
  unfold Float64.copysign
  rw [hn, hs]
  kernel_rfl

/-- the rest of a whole number by a positive int -/
theorem mod_hf {c b q r : Int} (hc : c.natAbs < 2 ^ 51) (hb : 0 < b) (hb2 : b < 2 ^ 50) (e : c = 2 * (b * q + r)) (h0 : 0 ≤ r) (h1 : r < b) :
    (Float64.divmod (hf c) (Float64.ofInt b)).snd = hf (2 * r) := by
  obtain ⟨mx, ex, hd, hv⟩ := hf_val (n := c) (by omega)
  obtain ⟨my, ey, hd', hv'⟩ := ofInt_fin (b := b) (by omega)
  have hb3 : decide (b < 0) = false := decide_eq_false (by omega)
  rw [hb3] at hd'
  have hU := U_pos
  have hvy : 0 < val (Float64.ofInt b) := by rw [hv']; exact Int.mul_pos (by omega) hU
  have hk : my ≠ 0 := by
    rintro rfl
    rw [Float64.val_eq hd'] at hvy
    simp [sgn] at hvy
  have hR := fmod_right hd hd' hk
  have hvy2 : val (Float64.ofInt b) = 2 * b * ((2 ^ 1073 : Nat) : Int) := by
    rw [hv', U_half]
    have : b * 1048576 * U = 2 * b * (524288 * U) := by rw [← Int.mul_assoc]; congr 1; omega
    exact this
  have hW : (val (hf c)).natAbs % (val (Float64.ofInt b)).natAbs = 1 * ((c.natAbs % (2 * b).natAbs) * 2 ^ 1073) := by
    rw [hv, hvy2, Int.natAbs_mul, Int.natAbs_mul, Int.natAbs_natCast, Nat.mul_mod_mul_right, Nat.one_mul]
  have hmod : c % (2 * b) = 2 * r := by
    have : c = 2 * r + 2 * b * q := by rw [e, Int.mul_add, Int.mul_assoc]; omega
    rw [this, Int.add_mul_emod_self_left]
    exact Int.emod_eq_of_lt (by omega) (by omega)
  rw [divmod_snd]
  by_cases hneg : c < 0
  · -- below nought
    have hdec : decide (c < 0) = true := decide_eq_true hneg
    rw [hdec] at hR
    generalize hw : c.natAbs % (2 * b).natAbs = w at *
    have hw2 : (w : Int) = (-c) % (2 * b) := by
      have : ((c.natAbs % (2 * b).natAbs : Nat) : Int) = (c.natAbs : Int) % ((2 * b).natAbs : Int) := Int.natCast_emod _ _
      rw [hw] at this
      rw [this, show ((c.natAbs : Nat) : Int) = -c by omega, show (((2 * b).natAbs : Nat) : Int) = 2 * b by omega]
    have hwlt : w < (2 * b).natAbs := by rw [← hw]; exact Nat.mod_lt _ (by omega)
    by_cases hz : w = 0
    · subst hz
      have hm : Float64.fmod (hf c) (Float64.ofInt b) = pack true 0 := right_exact hR (by decide) (by rw [Float64.V_zero]; exact Nat.two_pow_pos _) (by rw [hW, Float64.V_zero, Nat.zero_mul])
      have hd0 : decode (pack true 0) = .fin true 0 (-1074) := by kernel_rfl
      have hz0 : Float64.isZero (pack true 0) = true := by
        rw [isZero_val hd0, Float64.val_eq hd0]; simp [sgn]
      rw [hm, if_pos hz0, copysign_pos hd', ← hf_zero]
      congr 1
      have h2b : (2 * b) ∣ (-c) := Int.dvd_of_emod_eq_zero (by rw [← hw2]; rfl)
      have h3 : (2 * b) ∣ c := (Int.dvd_neg).mp h2b
      have := Int.emod_eq_zero_of_dvd h3
      omega
    · have hm : Float64.fmod (hf c) (Float64.ofInt b) = hf (-(w : Int)) :=
        eq_hf (by omega) hR (by decide) (by symm; apply decide_eq_true; omega) (by rw [hW]; congr 2; omega)
      obtain ⟨m9, e9, hd9, hv9⟩ := hf_val (n := -(w : Int)) (by omega)
      have hK := nat_pow_pos 1073
      have hv9n : val (hf (-(w : Int))) < 0 := by rw [hv9]; exact Int.mul_neg_of_neg_of_pos (by omega) hK
      rw [hm, isZero_val hd9, if_neg (by simp; omega), lt_val hd' zero_dec, lt_val hd9 zero_dec, zero_val,
        decide_eq_false (show ¬ val (Float64.ofInt b) < 0 by omega), decide_eq_true hv9n]
      rw [if_pos (by decide), ofInt_hf (by omega), add_hf (by omega) (by omega)]
      congr 1
      have h4 : (-c) % (2 * b) = 2 * b - 2 * r := by
        rw [Int.neg_emod]
        have hne : ¬ (2 * b) ∣ c := by
          intro q
          have q2 := (Int.dvd_neg).mpr q
          have := Int.emod_eq_zero_of_dvd q2
          omega
        rw [if_neg hne, hmod]
        omega
      omega
  · have hdec : decide (c < 0) = false := decide_eq_false hneg
    rw [hdec] at hR
    have hw2 : ((c.natAbs % (2 * b).natAbs : Nat) : Int) = 2 * r := by
      have : ((c.natAbs % (2 * b).natAbs : Nat) : Int) = (c.natAbs : Int) % ((2 * b).natAbs : Int) := Int.natCast_emod _ _
      rw [this, show ((c.natAbs : Nat) : Int) = c by omega, show (((2 * b).natAbs : Nat) : Int) = 2 * b by omega, hmod]
    have hm : Float64.fmod (hf c) (Float64.ofInt b) = hf (2 * r) :=
      eq_hf (by omega) hR (by decide) (by symm; apply decide_eq_false; omega) (by rw [hW]; congr 2; omega)
    obtain ⟨m9, e9, hd9, hv9⟩ := hf_val (n := 2 * r) (by omega)
    have hK := nat_pow_pos 1073
    have hv9n : ¬ val (hf (2 * r)) < 0 := by
      rw [hv9]
      have := Int.mul_nonneg (show 0 ≤ 2 * r by omega) (Int.le_of_lt hK)
      omega
    rw [hm]
    by_cases hz : r = 0
    · subst hz
      have : Float64.isZero (hf (2 * 0)) = true := by rw [isZero_val hd9, hv9]; simp
      rw [if_pos this, copysign_pos hd', ← hf_zero]
      rfl
    · have : ¬ Float64.isZero (hf (2 * r)) = true := by
        rw [isZero_val hd9, hv9]
        have := Int.mul_ne_zero (show 2 * r ≠ 0 by omega) (show ((2 ^ 1073 : Nat) : Int) ≠ 0 by omega)
        simpa using this
      rw [if_neg this, lt_val hd' zero_dec, lt_val hd9 zero_dec, zero_val, decide_eq_false hv9n, decide_eq_false (show ¬ val (Float64.ofInt b) < 0 by omega), if_neg (by decide)]

/-- the floor of a quotient -/
theorem quot_floor {c b q : Int} (hc : c.natAbs < 2 ^ 32) (hb : 0 < b) (hb2 : b ≤ 2 ^ 19) (h1 : 2 * (b * q) ≤ c) (h2 : c < 2 * (b * q) + 2 * b) :
    toInt Float64.floorOf (Float64.div (hf c) (Float64.ofInt b)) = q := by
  have hq1 : q < 2 ^ 32 := by
    rcases Int.lt_or_le q (2 ^ 32) with h | h
    · exact h
    · have : 1 * q ≤ b * q := Int.mul_le_mul_of_nonneg_right (by omega) (by omega)
      omega
  have hq2 : -(2 ^ 32) - 1 < q := by
    rcases Int.lt_or_le (-(2 ^ 32) - 1) q with h | h
    · exact h
    · have : b * (q + 1) ≤ 1 * (q + 1) := by
        have := Int.mul_le_mul_of_nonneg_right (a := 1) (b := b) (c := -(q + 1)) (by omega) (by omega)
        rw [Int.mul_neg, Int.mul_neg] at this
        omega
      rw [Int.mul_add] at this
      omega
  have h := fb_hf_div (a := c) (b := b) (lo := q * 1048576) (hi := (q + 1) * 1048576 - 1) (by omega) hb (by omega) (by omega) (by omega)
    (by
      have : q * 1048576 * b = b * q * 1048576 := by ac_rfl
      rw [this]; omega)
    (by
      have : ((q + 1) * 1048576 - 1) * b = b * q * 1048576 + b * 1048576 - b := by
        rw [Int.sub_mul, Int.one_mul, Int.add_mul, Int.add_mul]
        have : q * 1048576 * b = b * q * 1048576 := by ac_rfl
        rw [this]; omega
      rw [this]; omega)
  have := fb_floor h
  omega

/-- the ceiling of a quotient -/
theorem quot_ceil {c b q : Int} (hc : c.natAbs < 2 ^ 32) (hb : 0 < b) (hb2 : b ≤ 2 ^ 19) (h1 : 2 * (b * q) - 2 * b < c) (h2 : c ≤ 2 * (b * q)) :
    toInt Float64.ceilOf (Float64.div (hf c) (Float64.ofInt b)) = q := by
  have hq1 : q < 2 ^ 32 + 1 := by
    rcases Int.lt_or_le q (2 ^ 32 + 1) with h | h
    · exact h
    · have : 1 * (q - 1) ≤ b * (q - 1) := Int.mul_le_mul_of_nonneg_right (by omega) (by omega)
      have e1 := Int.mul_sub b q 1
      omega
  have hq2 : -(2 ^ 32) < q := by
    rcases Int.lt_or_le (-(2 ^ 32)) q with h | h
    · exact h
    · have : b * q ≤ 1 * q := by
        have := Int.mul_le_mul_of_nonneg_right (a := 1) (b := b) (c := -q) (by omega) (by omega)
        rw [Int.mul_neg, Int.mul_neg] at this
        omega
      omega
  have h := fb_hf_div (a := c) (b := b) (lo := (q - 1) * 1048576 + 1) (hi := q * 1048576) (by omega) hb (by omega) (by omega) (by omega)
    (by
      have : ((q - 1) * 1048576 + 1) * b = b * q * 1048576 - b * 1048576 + b := by
        rw [Int.add_mul, Int.one_mul, Int.sub_mul, Int.sub_mul]
        have : q * 1048576 * b = b * q * 1048576 := by ac_rfl
        rw [this]; omega
      rw [this]; omega)
    (by
      have : q * 1048576 * b = b * q * 1048576 := by ac_rfl
      rw [this]; omega)
  have := fb_ceil h
  omega

theorem mul_hf {a b : Int} (ha : a.natAbs < 2 ^ 52) (hb : 0 < b) (hb2 : b < 2 ^ 51) (hab : (a * b).natAbs < 2 ^ 53) : Float64.mul (hf a) (Float64.ofInt b) = hf (a * b) := by
  obtain ⟨m, e, hd, hv⟩ := hf_val (n := a) (by omega)
  obtain ⟨m', e', hd', hv'⟩ := ofInt_fin (b := b) (by omega)
  have hR := Float64.mul_right hd hd'
  refine eq_hf hab hR (Nat.two_pow_pos _) ?_ ?_
  · rw [decide_eq_false (show ¬ b < 0 by omega), Bool.bne_false]
    apply decide_eq_decide.mpr
    have h1 := lt_scale (a := a) (b := 0) hb
    rw [Int.zero_mul] at h1
    exact h1.symm
  · rw [hv, hv', Int.mul_assoc, ← U_unit, Int.natAbs_mul, Int.natAbs_mul, Int.natAbs_mul, Int.natAbs_natCast, Int.natAbs_natCast]
    generalize (2 : Nat) ^ 1074 = K
    generalize (2 : Nat) ^ 1073 = K'
    ac_rfl

/-- int over a positive int -/
theorem fb_int_div {a b lo hi : Int} (hb : 0 < b) (hlo : lo.natAbs < 2 ^ 53) (hhi : hi.natAbs < 2 ^ 53) (h1 : lo * b ≤ a * 1048576) (h2 : a * 1048576 ≤ hi * b) :
    FB (Float64.ofFrac (decide (a < 0) != decide (b < 0)) a.natAbs b.natAbs) lo hi := by
  have hU := U_pos
  rw [decide_eq_false (show ¬ b < 0 by omega), Bool.bne_false]
  have hR : Right (Float64.ofFrac (decide (a < 0)) a.natAbs b.natAbs) (decide (a < 0)) (a.natAbs * 2 ^ 1074) b.natAbs :=
    Float64.ofFrac_right (by omega) rfl (by omega)
  have hb2 : ((b.natAbs : Nat) : Int) = b := by omega
  refine fb_of_right hR (by omega) hlo hhi ?_ ?_
  · rw [sgn_abs, hb2, U_unit]
    have : lo * U * b = lo * b * U := by ac_rfl
    rw [this, ← Int.mul_assoc]
    exact Int.mul_le_mul_of_nonneg_right h1 (Int.le_of_lt hU)
  · rw [sgn_abs, hb2, U_unit]
    have : hi * U * b = hi * b * U := by ac_rfl
    rw [this, ← Int.mul_assoc]
    exact Int.mul_le_mul_of_nonneg_right h2 (Int.le_of_lt hU)

theorem int_quot_floor {a b q : Int} (ha : a.natAbs < 2 ^ 31) (hb : 0 < b) (hb2 : b ≤ 2 ^ 19) (h1 : b * q ≤ a) (h2 : a < b * q + b) :
    toInt Float64.floorOf (Float64.ofFrac (decide (a < 0) != decide (b < 0)) a.natAbs b.natAbs) = q := by
  have hq1 : q < 2 ^ 32 := by
    rcases Int.lt_or_le q (2 ^ 32) with h | h
    · exact h
    · have : 1 * q ≤ b * q := Int.mul_le_mul_of_nonneg_right (by omega) (by omega)
      omega
  have hq2 : -(2 ^ 32) - 1 < q := by
    rcases Int.lt_or_le (-(2 ^ 32) - 1) q with h | h
    · exact h
    · have : b * (q + 1) ≤ 1 * (q + 1) := by
        have := Int.mul_le_mul_of_nonneg_right (a := 1) (b := b) (c := -(q + 1)) (by omega) (by omega)
        rw [Int.mul_neg, Int.mul_neg] at this
        omega
      rw [Int.mul_add] at this
      omega
  have h := fb_int_div (a := a) (b := b) (lo := q * 1048576) (hi := (q + 1) * 1048576 - 1) hb (by omega) (by omega)
    (by
      have : q * 1048576 * b = b * q * 1048576 := by ac_rfl
      rw [this]; omega)
    (by
      have : ((q + 1) * 1048576 - 1) * b = b * q * 1048576 + b * 1048576 - b := by
        rw [Int.sub_mul, Int.one_mul, Int.add_mul, Int.add_mul]
        have : q * 1048576 * b = b * q * 1048576 := by ac_rfl
        rw [this]; omega
      rw [this]; omega)
  have := fb_floor h
  omega
end

section
open PySem PySem.Flt
open PySem.Float64 (decode val Right V dist pack infMag sgn)

abbrev TROP : UInt64 := 4645133024903820211
theorem trop_dec : decode TROP = .fin false 6425408712209331 (-44) := by kernel_rfl
theorem trop_val : val TROP = 6425408712209331 * ((2 ^ 1030 : Nat) : Int) := by
  rw [Float64.val_eq trop_dec, Float64.sgn_mul]
  rfl
theorem U_1030 : U = 16777216 * ((2 ^ 1030 : Nat) : Int) := by
  unfold U
  rw [show (16777216 : Int) = ((2 ^ 24 : Nat) : Int) by decide, ← Int.natCast_mul, ← Nat.pow_add]
theorem fb_trop : FB TROP 382984203 382984204 := by
  have h := nat_pow_pos 1030
  refine ⟨⟨_, _, _, trop_dec⟩, ?_, ?_⟩ <;> rw [trop_val, U_1030] <;> omega
theorem trop_pos : 0 < val TROP := by
  rw [trop_val]; exact Int.mul_pos (by decide) (nat_pow_pos _)
theorem epochP_hf : (4701118784549683200 : UInt64) = hf 3896641 := by decide +kernel
theorem epochG_hf : (4700144277945057280 : UInt64) = hf 3442851 := by decide +kernel
theorem half_hf : (4602678819172646912 : UInt64) = hf 1 := by decide +kernel

theorem fb_trop_mul {k lo hi : Int} (hk : k.natAbs < 2 ^ 20) (hlo : lo.natAbs < 2 ^ 53) (hhi : hi.natAbs < 2 ^ 53) (h1 : lo ≤ 382984203 * k) (h2 : lo ≤ 382984204 * k) (h3 : 382984203 * k ≤ hi) (h4 : 382984204 * k ≤ hi) :
    FB (Float64.mul TROP (Float64.ofInt k)) lo hi := by
  obtain ⟨m, e, hd, hv⟩ := ofInt_fin (b := k) (by omega)
  have hU := U_pos
  have hT := fb_trop
  obtain ⟨_, t1, t2⟩ := hT
  refine fb_mul ⟨_, _, _, trop_dec⟩ ⟨_, m, e, hd⟩ hlo hhi ?_ ?_
  · rw [hv, U_unit, Int.mul_assoc k, ← Int.mul_assoc (val TROP)]
    refine Int.mul_le_mul_of_nonneg_right ?_ (by omega)
    rcases Int.le_total 0 k with q | q
    · have := Int.mul_le_mul_of_nonneg_right t1 q
      have e1 : 382984203 * U * k = 382984203 * k * U := by ac_rfl
      have := Int.mul_le_mul_of_nonneg_right h1 (Int.le_of_lt hU)
      omega
    · have := Int.mul_le_mul_of_nonpos_right t2 q
      have e1 : 382984204 * U * k = 382984204 * k * U := by ac_rfl
      have := Int.mul_le_mul_of_nonneg_right h2 (Int.le_of_lt hU)
      omega
  · rw [hv, U_unit, Int.mul_assoc k, ← Int.mul_assoc (val TROP)]
    refine Int.mul_le_mul_of_nonneg_right ?_ (by omega)
    rcases Int.le_total 0 k with q | q
    · have := Int.mul_le_mul_of_nonneg_right t2 q
      have e1 : 382984204 * U * k = 382984204 * k * U := by ac_rfl
      have := Int.mul_le_mul_of_nonneg_right h4 (Int.le_of_lt hU)
      omega
    · have := Int.mul_le_mul_of_nonpos_right t1 q
      have e1 : 382984203 * U * k = 382984203 * k * U := by ac_rfl
      have := Int.mul_le_mul_of_nonneg_right h3 (Int.le_of_lt hU)
      omega

theorem fb_div_trop {c lo hi : Int} (hc : c.natAbs < 2 ^ 53) (hlo : lo.natAbs < 2 ^ 53) (hhi : hi.natAbs < 2 ^ 53) (h1 : lo * 6425408712209331 ≤ c * 9223372036854775808) (h2 : c * 9223372036854775808 ≤ hi * 6425408712209331) :
    FB (Float64.div (hf c) TROP) lo hi := by
  obtain ⟨m, e, hd, hv⟩ := hf_val hc
  have hK := nat_pow_pos 1030
  have key : c * ((2 ^ 1073 : Nat) : Int) * ((2 ^ 1074 : Nat) : Int) = c * 9223372036854775808 * (U * ((2 ^ 1030 : Nat) : Int)) := by
    rw [U_half, U_unit]
    conv => lhs; rw [U_1030]
    conv => rhs; rw [U_1030]
    generalize ((2 ^ 1030 : Nat) : Int) = K
    have : (9223372036854775808 : Int) * 16777216 = 524288 * 16777216 * 1048576 * 16777216 := by decide
    calc c * (524288 * (16777216 * K)) * (1048576 * (16777216 * K)) = c * (524288 * 16777216 * 1048576 * 16777216) * (K * K) := by ac_rfl
      _ = c * (9223372036854775808 * 16777216) * (K * K) := by rw [this]
      _ = c * 9223372036854775808 * (16777216 * K * K) := by ac_rfl
  refine fb_div ⟨_, _, _, hd⟩ ⟨_, _, trop_dec⟩ trop_pos hlo hhi ?_ ?_
  · rw [hv, key, trop_val]
    have : lo * U * (6425408712209331 * ((2 ^ 1030 : Nat) : Int)) = lo * 6425408712209331 * (U * ((2 ^ 1030 : Nat) : Int)) := by ac_rfl
    rw [this]
    exact Int.mul_le_mul_of_nonneg_right h1 (Int.le_of_lt (Int.mul_pos U_pos hK))
  · rw [hv, key, trop_val]
    have : hi * U * (6425408712209331 * ((2 ^ 1030 : Nat) : Int)) = hi * 6425408712209331 * (U * ((2 ^ 1030 : Nat) : Int)) := by ac_rfl
    rw [this]
    exact Int.mul_le_mul_of_nonneg_right h2 (Int.le_of_lt (Int.mul_pos U_pos hK))

theorem shift_val {x : UInt64} {s : Bool} {m : Nat} {e : Int} (h : decode x = .fin s m e) : (Float64.shift m 1 e).1 * 2 ^ 1074 = (val x).natAbs * (Float64.shift m 1 e).2 := by
  rw [Float64.val_natAbs h]
  exact Float64.shift_one m e 1074 (by have := Float64.decode_ge h; omega)

theorem nearest_nat {n d k : Nat} (hd : 0 < d) (h1 : 2 * n < 2 * (d * k) + d) (h2 : 2 * (d * k) < 2 * n + d) : Float64.halfEven n d = k := by
  have h := Float64.halfEven_nearest n d hd k
  generalize Float64.halfEven n d = j at *
  rcases Nat.lt_trichotomy j k with q | q | q
  · have := Nat.mul_le_mul_left d (Nat.succ_le_of_lt q)
    rw [Nat.mul_succ] at this
    unfold dist at h
    omega
  · exact q
  · have := Nat.mul_le_mul_left d (Nat.succ_le_of_lt q)
    rw [Nat.mul_succ] at this
    unfold dist at h
    omega

theorem fb_round {x : UInt64} {lo hi k : Int} (h : FB x lo hi) (h1 : k * 1048576 - 524288 < lo) (h2 : hi < k * 1048576 + 524288) : toInt Float64.nearestOf x = k := by
  obtain ⟨⟨s, m, e, hd⟩, v1, v2⟩ := h
  rw [toInt_fin hd]
  unfold Float64.nearestOf
  have hs := shift_val hd
  have hp := Float64.shift_pos m 1 e (by decide)
  have hU := U_pos
  have w1 : (k * 1048576 - 524288) * U < val x := Int.lt_of_lt_of_le ((lt_scale hU).mpr h1) v1
  have w2 : val x < (k * 1048576 + 524288) * U := Int.lt_of_le_of_lt v2 ((lt_scale hU).mpr h2)
  rw [Int.sub_mul, Int.mul_assoc] at w1
  rw [Int.add_mul, Int.mul_assoc] at w2
  have hu := U_unit
  have hval : val x = sgn s (val x).natAbs := by rw [Float64.val_natAbs hd, Float64.val_eq hd]
  show sgn s (Float64.halfEven (Float64.shift m 1 e).1 (Float64.shift m 1 e).2) = k
  generalize (Float64.shift m 1 e).1 = n at *
  generalize (Float64.shift m 1 e).2 = d at *
  generalize hP : (2 : Nat) ^ 1074 = P at *
  generalize val x = v at *
  have hPp : 0 < P := by rw [← hP]; exact Nat.two_pow_pos _
  have u1 : (P : Int) = 1048576 * U := hu
  -- the nearest whole number of |v| / P
  have main : ∀ j : Nat, 2 * v.natAbs < 2 * (P * j) + P → 2 * (P * j) < 2 * v.natAbs + P → Float64.halfEven n d = j := by
    intro j q1 q2
    refine nearest_nat hp ?_ ?_
    · refine Nat.lt_of_mul_lt_mul_right (a := P) ?_
      have a1 : 2 * n * P = 2 * v.natAbs * d := by rw [Nat.mul_assoc, hs, Nat.mul_assoc]
      have a2 : (2 * (d * j) + d) * P = (2 * (P * j) + P) * d := by rw [Nat.add_mul, Nat.add_mul]; congr 1 <;> ac_rfl
      rw [a1, a2]
      exact Nat.mul_lt_mul_of_pos_right q1 hp
    · refine Nat.lt_of_mul_lt_mul_right (a := P) ?_
      have a1 : (2 * n + d) * P = (2 * v.natAbs + P) * d := by rw [Nat.add_mul, Nat.add_mul, Nat.mul_assoc, hs]; congr 1 <;> ac_rfl
      have a2 : 2 * (d * j) * P = 2 * (P * j) * d := by ac_rfl
      rw [a1, a2]
      exact Nat.mul_lt_mul_of_pos_right q2 hp
  cases s with
  | false =>
    have hv0 : v = (v.natAbs : Int) := hval
    have hk : 0 ≤ k := by
      rcases Int.lt_or_le k 0 with q | q
      · have := Int.mul_le_mul_of_nonneg_right (show k ≤ -1 by omega) (show 0 ≤ 1048576 * U by omega)
        omega
      · exact q
    have e1 : ((P * k.toNat : Nat) : Int) = k * (1048576 * U) := by rw [Int.natCast_mul, u1, Int.mul_comm]; congr 1; omega
    have := main k.toNat (by omega) (by omega)
    rw [this]
    show ((k.toNat : Nat) : Int) = k
    omega
  | true =>
    have hv0 : v = -(v.natAbs : Int) := hval
    have hk : k ≤ 0 := by
      rcases Int.lt_or_le 0 k with q | q
      · have := Int.mul_le_mul_of_nonneg_right (show 1 ≤ k by omega) (show 0 ≤ 1048576 * U by omega)
        omega
      · exact q
    have e1 : ((P * (-k).toNat : Nat) : Int) = -(k * (1048576 * U)) := by
      rw [Int.natCast_mul, u1, Int.mul_comm, ← Int.neg_mul]; congr 1; omega
    have := main (-k).toNat (by omega) (by omega)
    rw [this]
    show -(((-k).toNat : Nat) : Int) = k
    omega

/-- the year's number of a day near its first day -/
theorem round_trop {c k : Int} (hc : c.natAbs < 2 ^ 40) (hk : k.natAbs < 2 ^ 30) (h1 : (k * 1048576 - 262144) * 6425408712209331 ≤ c * 9223372036854775808) (h2 : c * 9223372036854775808 ≤ (k * 1048576 + 262144) * 6425408712209331) :
    toInt Float64.nearestOf (Float64.div (hf c) TROP) = k :=
  fb_round (fb_div_trop (by omega) (by omega) (by omega) h1 h2) (by omega) (by omega)
end

section
open PySem PySem.Flt PySem.Calls PyProof.Rows PySem.W

def RoundTo (_ : Int) : Prop := True
section
variable {prog : Program} {w : World} {A : Around} {E : Value → Shared → Prop} {s : Shared} {t u : Tok} {Q : Value → Shared → Prop} {x y : UInt64} {a b lo hi lo' hi' : Int}

theorem notInf_int (h : b.natAbs < 2 ^ 52) : ¬ Float64.isInf (Float64.ofInt b) = true := by
  obtain ⟨m, e, hd, _⟩ := ofInt_fin h
  unfold Float64.isInf
  rw [hd]
  simp
theorem notZero_int (h : b.natAbs < 2 ^ 52) (h0 : 0 < b) : ¬ Float64.isZero (Float64.ofInt b) = true := by
  intro q
  have := (isZero_ofInt b).mp q
  omega
theorem fin_of_fb (h : FB x lo hi) : Float64.isFinite x = true := by
  obtain ⟨⟨s, m, e, hd⟩, _⟩ := h
  unfold Float64.isFinite
  rw [hd]
theorem absurd_nan (h : FB x lo hi) : ¬ Float64.isNaN x = true := by
  rw [not_nan_of_finite (fin_of_fb h)]; decide
theorem absurd_inf (h : FB x lo hi) : ¬ Float64.isInf x = true := by
  rw [not_inf_of_finite (fin_of_fb h)]; decide

-- what is said exactly, in halves
theorem w_sub_hh (hx : x = hf a) (hy : y = hf b) (ha : a.natAbs < 2 ^ 52) (hb : b.natAbs < 2 ^ 52) (h : Q (.float (hf (a - b)) s.toks) { s with toks := s.toks + 1 }) :
    wpAny (model prog w) A (binaryOp .Sub (.float x t) (.float y u)) Q E s := by
  subst hx; subst hy
  refine sub_float ?_
  rw [sub_hf ha hb]; exact h
theorem w_add_hh (hx : x = hf a) (hy : y = hf b) (ha : a.natAbs < 2 ^ 52) (hb : b.natAbs < 2 ^ 52) (h : Q (.float (hf (a + b)) s.toks) { s with toks := s.toks + 1 }) :
    wpAny (model prog w) A (binaryOp .Add (.float x t) (.float y u)) Q E s := by
  subst hx; subst hy
  refine add_float ?_
  rw [add_hf ha hb]; exact h
theorem w_sub_hi (hx : x = hf a) (ha : a.natAbs < 2 ^ 51) (hb : b.natAbs < 2 ^ 50) (h : Q (.float (hf (a - 2 * b)) s.toks) { s with toks := s.toks + 1 }) :
    wpAny (model prog w) A (binaryOp .Sub (.float x t) (.int b u)) Q E s := by
  subst hx
  refine AutoFloatOps.sub_fi_1 (notInf_int (by omega)) ?_
  rw [ofInt_hf (by omega), sub_hf (by omega) (by omega)]; exact h
theorem w_add_hi (hx : x = hf a) (ha : a.natAbs < 2 ^ 51) (hb : b.natAbs < 2 ^ 50) (h : Q (.float (hf (a + 2 * b)) s.toks) { s with toks := s.toks + 1 }) :
    wpAny (model prog w) A (binaryOp .Add (.float x t) (.int b u)) Q E s := by
  subst hx
  refine AutoFloatOps.add_fi_1 (notInf_int (by omega)) ?_
  rw [ofInt_hf (by omega), add_hf (by omega) (by omega)]; exact h
theorem w_add_ih (hx : x = hf a) (ha : a.natAbs < 2 ^ 51) (hb : b.natAbs < 2 ^ 50) (h : Q (.float (hf (2 * b + a)) s.toks) { s with toks := s.toks + 1 }) :
    wpAny (model prog w) A (binaryOp .Add (.int b u) (.float x t)) Q E s := by
  subst hx
  refine AutoFloatOps.add_if_1 (notInf_int (by omega)) ?_
  rw [ofInt_hf (by omega), add_hf (by omega) (by omega)]; exact h
theorem w_sub_ih (hx : x = hf a) (ha : a.natAbs < 2 ^ 51) (hb : b.natAbs < 2 ^ 50) (h : Q (.float (hf (2 * b - a)) s.toks) { s with toks := s.toks + 1 }) :
    wpAny (model prog w) A (binaryOp .Sub (.int b u) (.float x t)) Q E s := by
  subst hx
  refine AutoFloatOps.sub_if_1 (notInf_int (by omega)) ?_
  rw [ofInt_hf (by omega), sub_hf (by omega) (by omega)]; exact h
theorem w_mul_hi (hx : x = hf a) (ha : a.natAbs < 2 ^ 32) (hb : 0 < b) (hb2 : b < 2 ^ 20) (h : Q (.float (hf (a * b)) s.toks) { s with toks := s.toks + 1 }) :
    wpAny (model prog w) A (binaryOp .Mult (.float x t) (.int b u)) Q E s := by
  subst hx
  refine AutoFloatOps.mul_fi_1 (notInf_int (by omega)) ?_
  have hab : (a * b).natAbs < 2 ^ 53 := by
    rw [Int.natAbs_mul]
    have h1 : a.natAbs * b.natAbs ≤ 2 ^ 32 * 2 ^ 20 := Nat.mul_le_mul (by omega) (by omega)
    have h2 : (2 : Nat) ^ 32 * 2 ^ 20 < 2 ^ 53 := by decide
    omega
  rw [mul_hf (by omega) hb (by omega) hab]; exact h
theorem w_mod_hi (hx : x = hf a) (ha : a.natAbs < 2 ^ 51) (he : a % 2 = 0) (hb : 0 < b) (hb2 : b < 2 ^ 50) (h : ∀ q r, a = 2 * (b * q + r) → 0 ≤ r → r < b → Q (.float (hf (2 * r)) s.toks) { s with toks := s.toks + 1 }) :
    wpAny (model prog w) A (binaryOp .Mod (.float x t) (.int b u)) Q E s := by
  subst hx
  refine AutoFloatOps.mod_fi_2 (notInf_int (by omega)) (notZero_int (by omega) hb) ?_
  have e : a = 2 * (b * (a / 2 / b) + a / 2 % b) := by
    have := Int.mul_ediv_add_emod (a / 2) b
    omega
  have h0 := Int.emod_nonneg (a / 2) (show b ≠ 0 by omega)
  have h1 := Int.emod_lt_of_pos (a / 2) hb
  rw [mod_hf ha hb hb2 e h0 h1]
  exact h _ _ e h0 h1
theorem w_div_hi (hb : 0 < b) (hb2 : b < 2 ^ 50) (h : Q (.float (Float64.div x (Float64.ofInt b)) s.toks) { s with toks := s.toks + 1 }) :
    wpAny (model prog w) A (binaryOp .Div (.float x t) (.int b u)) Q E s :=
  AutoFloatOps.truediv_fi_2 (notInf_int (by omega)) (notZero_int (by omega) hb) h
theorem trop_notZero : ¬ Float64.isZero TROP = true := by
  rw [isZero_val trop_dec]
  have := trop_pos
  simp; omega
theorem w_div_hT (h : Q (.float (Float64.div x TROP) s.toks) { s with toks := s.toks + 1 }) :
    wpAny (model prog w) A (binaryOp .Div (.float x t) (.float TROP u)) Q E s :=
  AutoFloatOps.truediv_1 trop_notZero h
theorem w_div_ii (hA : A.handled = none) (hb : 0 < b) (ha : a.natAbs < 2 ^ 40) (h : Q (.float (Float64.ofFrac (decide (a < 0) != decide (b < 0)) a.natAbs b.natAbs) s.toks) { s with toks := s.toks + 1 }) :
    wpAny (model prog w) A (binaryOp .Div (.int a t) (.int b u)) Q E s :=
  div_ii_fits hA (Nat.lt_trans ha (by decide +kernel)) (fun q => by omega) fun _ _ => h

-- floors
theorem w_floor_any (hA : A.handled = none) (hx : FB x lo hi) {n : Int} (e : toInt Float64.floorOf x = n) (h : Q (.int n s.toks) { s with toks := s.toks + 1 }) :
    wpAny (model prog w) A (call (.builtin "math.floor") [.float x t]) Q E s :=
  call_floor_float hA (fun q => absurd q (absurd_nan hx)) (fun q => absurd q (absurd_inf hx)) fun _ => by rw [e]; exact h
theorem w_ceil_any (hA : A.handled = none) (hx : FB x lo hi) {n : Int} (e : toInt Float64.ceilOf x = n) (h : Q (.int n s.toks) { s with toks := s.toks + 1 }) :
    wpAny (model prog w) A (call (.builtin "math.ceil") [.float x t]) Q E s :=
  call_ceil_float hA (fun q => absurd q (absurd_nan hx)) (fun q => absurd q (absurd_inf hx)) fun _ => by rw [e]; exact h
theorem w_int_any (hA : A.handled = none) (hx : FB x lo hi) {n : Int} (e : toInt Float64.truncOf x = n) (h : Q (.int n s.toks) { s with toks := s.toks + 1 }) :
    wpAny (model prog w) A (call (.type "int") [.float x t]) Q E s :=
  call_int_float3 hA (fun q => absurd q (absurd_nan hx)) (fun q => absurd q (absurd_inf hx)) fun _ => by rw [e]; exact h
theorem w_round_any (hA : A.handled = none) (hx : FB x lo hi) {n : Int} (e : toInt Float64.nearestOf x = n) (h : Q (.int n s.toks) { s with toks := s.toks + 1 }) :
    wpAny (model prog w) A (call (.builtin "round") [.float x t]) Q E s :=
  call_round_float hA (fun q => absurd q (absurd_nan hx)) (fun q => absurd q (absurd_inf hx)) fun _ => by rw [e]; exact h

theorem w_floor_h (hA : A.handled = none) (ha : a.natAbs < 2 ^ 52) (h : ∀ n, 2 * n ≤ a → a < 2 * n + 2 → Q (.int n s.toks) { s with toks := s.toks + 1 }) :
    wpAny (model prog w) A (call (.builtin "math.floor") [.float (hf a) t]) Q E s :=
  w_floor_any hA (fb_hf (by omega)) (floor_hf (by omega)) (h _ (by omega) (by omega))
theorem w_floor_fb (hA : A.handled = none) (hx : FB x lo hi) (h : ∀ n, lo < 1048576 * n + 1048576 → 1048576 * n ≤ hi → Q (.int n s.toks) { s with toks := s.toks + 1 }) :
    wpAny (model prog w) A (call (.builtin "math.floor") [.float x t]) Q E s :=
  w_floor_any hA hx rfl (by
    have := fb_floor hx
    exact h _ (by omega) (by omega))

theorem w_floor_q (hA : A.handled = none) (ha : a.natAbs < 2 ^ 32) (hb : 0 < b) (hb2 : b ≤ 2 ^ 19) (h : ∀ n, 2 * (b * n) ≤ a → a < 2 * (b * n) + 2 * b → Q (.int n s.toks) { s with toks := s.toks + 1 }) :
    wpAny (model prog w) A (call (.builtin "math.floor") [.float (Float64.div (hf a) (Float64.ofInt b)) t]) Q E s := by
  have h1 := Int.mul_ediv_add_emod a (2 * b)
  have h2 := Int.emod_nonneg a (show 2 * b ≠ 0 by omega)
  have h3 := Int.emod_lt_of_pos a (show 0 < 2 * b by omega)
  generalize a / (2 * b) = q at *
  generalize a % (2 * b) = r at *
  rw [Int.mul_assoc] at h1
  have e := quot_floor (c := a) (b := b) (q := q) ha hb hb2 (by omega) (by omega)
  have f : FB (Float64.div (hf a) (Float64.ofInt b)) (-(2 ^ 52)) (2 ^ 52) := fb_hf_div (by omega) hb (by omega) (by decide) (by decide) (by omega) (by omega)
  exact w_floor_any hA f e (h q (by omega) (by omega))
theorem w_ceil_q (hA : A.handled = none) (ha : a.natAbs < 2 ^ 32) (hb : 0 < b) (hb2 : b ≤ 2 ^ 19) (h : ∀ n, 2 * (b * n) - 2 * b < a → a ≤ 2 * (b * n) → Q (.int n s.toks) { s with toks := s.toks + 1 }) :
    wpAny (model prog w) A (call (.builtin "math.ceil") [.float (Float64.div (hf a) (Float64.ofInt b)) t]) Q E s := by
  have h1 := Int.mul_ediv_add_emod (-a) (2 * b)
  have h2 := Int.emod_nonneg (-a) (show 2 * b ≠ 0 by omega)
  have h3 := Int.emod_lt_of_pos (-a) (show 0 < 2 * b by omega)
  generalize (-a) / (2 * b) = q at *
  generalize (-a) % (2 * b) = r at *
  rw [Int.mul_assoc] at h1
  have hn := Int.mul_neg b q
  have e := quot_ceil (c := a) (b := b) (q := -q) ha hb hb2 (by omega) (by omega)
  have f : FB (Float64.div (hf a) (Float64.ofInt b)) (-(2 ^ 52)) (2 ^ 52) := fb_hf_div (by omega) hb (by omega) (by decide) (by decide) (by omega) (by omega)
  exact w_ceil_any hA f e (h (-q) (by omega) (by omega))
theorem w_floor_ii (hA : A.handled = none) (ha : a.natAbs < 2 ^ 31) (hb : 0 < b) (hb2 : b ≤ 2 ^ 19) (h : ∀ n, b * n ≤ a → a < b * n + b → Q (.int n s.toks) { s with toks := s.toks + 1 }) :
    wpAny (model prog w) A (call (.builtin "math.floor") [.float (Float64.ofFrac (decide (a < 0) != decide (b < 0)) a.natAbs b.natAbs) t]) Q E s := by
  have h1 := Int.mul_ediv_add_emod a b
  have h2 := Int.emod_nonneg a (show b ≠ 0 by omega)
  have h3 := Int.emod_lt_of_pos a hb
  have e := int_quot_floor (a := a) (b := b) (q := a / b) ha hb hb2 (by omega) (by omega)
  have f : FB (Float64.ofFrac (decide (a < 0) != decide (b < 0)) a.natAbs b.natAbs) (-(2 ^ 52)) (2 ^ 52) := fb_int_div hb (by decide) (by decide) (by omega) (by omega)
  exact w_floor_any hA f e (h _ (by omega) (by omega))
theorem w_int_h (hA : A.handled = none) (ha : a.natAbs < 2 ^ 50) (he : a % 2 = 0) (h : ∀ n, a = 2 * n → Q (.int n s.toks) { s with toks := s.toks + 1 }) :
    wpAny (model prog w) A (call (.type "int") [.float (hf a) t]) Q E s := by
  have e : a = 2 * (a / 2) := by omega
  have f := fb_hf (a := a) (by omega)
  refine w_int_any hA f (n := a / 2) ?_ (h _ e)
  have := trunc_hf (a := a / 2) (by omega)
  rw [← e] at this
  exact this
theorem w_round_T (hA : A.handled = none) {k : Int} (hR : RoundTo k) (ha : a.natAbs < 2 ^ 40) (hk : k.natAbs < 2 ^ 30) (h1 : (k * 1048576 - 262144) * 6425408712209331 ≤ a * 9223372036854775808) (h2 : a * 9223372036854775808 ≤ (k * 1048576 + 262144) * 6425408712209331)
    (h : Q (.int k s.toks) { s with toks := s.toks + 1 }) : wpAny (model prog w) A (call (.builtin "round") [.float (Float64.div (hf a) TROP) t]) Q E s :=
  w_round_any hA (fb_div_trop (by omega) (by omega) (by omega) h1 h2) (round_trop ha hk h1 h2) h

theorem fb_half : FB 4602678819172646912 524288 524288 := by
  rw [half_hf]; exact fb_weaken (fb_hf (by decide)) (by decide) (by decide)
theorem fb_epochP : FB 4701118784549683200 2042962116608 2042962116608 := by
  rw [epochP_hf]; exact fb_weaken (fb_hf (by decide)) (by decide) (by decide)
-- what is known by bounds
theorem w_mul_Ti (hk : b.natAbs < 2 ^ 20) (h : ∀ z l r, FB z l r → l ≤ 382984203 * b → l ≤ 382984204 * b → 382984203 * b ≤ r → 382984204 * b ≤ r → r - l ≤ b.natAbs → Q (.float z s.toks) { s with toks := s.toks + 1 }) :
    wpAny (model prog w) A (binaryOp .Mult (.float TROP t) (.int b u)) Q E s := by
  refine AutoFloatOps.mul_fi_1 (notInf_int (by omega)) ?_
  rcases Int.le_total 0 b with q | q
  · exact h _ (382984203 * b) (382984204 * b) (fb_trop_mul hk (by omega) (by omega) (by omega) (by omega) (by omega) (by omega)) (by omega) (by omega) (by omega) (by omega) (by omega)
  · exact h _ (382984204 * b) (382984203 * b) (fb_trop_mul hk (by omega) (by omega) (by omega) (by omega) (by omega) (by omega)) (by omega) (by omega) (by omega) (by omega) (by omega)
theorem w_add_ff (hx : FB x lo hi) (hy : FB y lo' hi') (hl : (lo + lo').natAbs < 2 ^ 53) (hh : (hi + hi').natAbs < 2 ^ 53) (h : ∀ z, FB z (lo + lo') (hi + hi') → Q (.float z s.toks) { s with toks := s.toks + 1 }) :
    wpAny (model prog w) A (binaryOp .Add (.float x t) (.float y u)) Q E s :=
  add_float (h _ (fb_add hx hy hl hh))
theorem w_sub_ff (hx : FB x lo hi) (hy : FB y lo' hi') (hl : (lo - hi').natAbs < 2 ^ 53) (hh : (hi - lo').natAbs < 2 ^ 53) (h : ∀ z, FB z (lo - hi') (hi - lo') → Q (.float z s.toks) { s with toks := s.toks + 1 }) :
    wpAny (model prog w) A (binaryOp .Sub (.float x t) (.float y u)) Q E s :=
  sub_float (h _ (fb_sub hx hy hl hh))
theorem fb_ofInt (hb : b.natAbs < 2 ^ 32) : FB (Float64.ofInt b) (b * 1048576) (b * 1048576) := by
  rw [ofInt_hf (by omega)]
  exact fb_weaken (fb_hf (by omega)) (by omega) (by omega)
theorem w_add_fi (hx : FB x lo hi) (hb : b.natAbs < 2 ^ 32) (hl : (lo + b * 1048576).natAbs < 2 ^ 53) (hh : (hi + b * 1048576).natAbs < 2 ^ 53) (h : ∀ z, FB z (lo + b * 1048576) (hi + b * 1048576) → Q (.float z s.toks) { s with toks := s.toks + 1 }) :
    wpAny (model prog w) A (binaryOp .Add (.float x t) (.int b u)) Q E s :=
  AutoFloatOps.add_fi_1 (notInf_int (by omega)) (h _ (fb_add hx (fb_ofInt hb) hl hh))
theorem w_add_if (hx : FB x lo hi) (hb : b.natAbs < 2 ^ 32) (hl : (b * 1048576 + lo).natAbs < 2 ^ 53) (hh : (b * 1048576 + hi).natAbs < 2 ^ 53) (h : ∀ z, FB z (b * 1048576 + lo) (b * 1048576 + hi) → Q (.float z s.toks) { s with toks := s.toks + 1 }) :
    wpAny (model prog w) A (binaryOp .Add (.int b u) (.float x t)) Q E s :=
  AutoFloatOps.add_if_1 (notInf_int (by omega)) (h _ (fb_add (fb_ofInt hb) hx hl hh))
/-- a quotient of ints and then an int more: by bounds -/
theorem fb_frac (hb : 0 < b) (ha : a.natAbs < 2 ^ 31) : FB (Float64.ofFrac (decide (a < 0) != decide (b < 0)) a.natAbs b.natAbs) (a * 1048576 / b) (a * 1048576 / b + 1) := by
  have h1 := Int.mul_ediv_add_emod (a * 1048576) b
  have h2 := Int.emod_nonneg (a * 1048576) (show b ≠ 0 by omega)
  have h3 := Int.emod_lt_of_pos (a * 1048576) hb
  have h4 : (a * 1048576 / b).natAbs ≤ (a * 1048576).natAbs := Int.natAbs_ediv_le_natAbs _ _
  refine fb_int_div hb (by omega) (by omega) ?_ ?_
  · rw [Int.mul_comm]; omega
  · have e1 := Int.mul_comm (a * 1048576 / b) b
    rw [Int.add_mul]; omega
theorem w_add_qi {c : Int} (hb : 0 < b) (ha : a.natAbs < 2 ^ 31) (hc : c.natAbs < 2 ^ 31) (h : ∀ z q, FB z (q + c * 1048576) (q + 1 + c * 1048576) → b * q ≤ a * 1048576 → a * 1048576 < b * q + b → Q (.float z s.toks) { s with toks := s.toks + 1 }) :
    wpAny (model prog w) A (binaryOp .Add (.float (Float64.ofFrac (decide (a < 0) != decide (b < 0)) a.natAbs b.natAbs) t) (.int c u)) Q E s := by
  have h1 := Int.mul_ediv_add_emod (a * 1048576) b
  have h2 := Int.emod_nonneg (a * 1048576) (show b ≠ 0 by omega)
  have h3 := Int.emod_lt_of_pos (a * 1048576) hb
  have h4 : (a * 1048576 / b).natAbs ≤ (a * 1048576).natAbs := Int.natAbs_ediv_le_natAbs _ _
  exact w_add_fi (fb_frac hb ha) (by omega) (by omega) (by omega) fun z f => h z _ f (by omega) (by omega)

-- comparisons
theorem w_lt_hi (hx : x = hf a) (ha : a.natAbs < 2 ^ 52) (h : Q (.bool (decide (a < 2 * b))) s) : wpAny (model prog w) A (compareOp .Lt (.float x t) (.int b u)) Q E s := by
  subst hx
  refine lt_fi ?_
  rw [cmpInt_hf (by omega), cmp_lt_iff]; exact h
theorem w_le_hi (hx : x = hf a) (ha : a.natAbs < 2 ^ 52) (h : Q (.bool (decide (a ≤ 2 * b))) s) : wpAny (model prog w) A (compareOp .LtE (.float x t) (.int b u)) Q E s := by
  subst hx
  refine le_fi ?_
  have e : (decide (a < 2 * b) || decide (a = 2 * b)) = decide (a ≤ 2 * b) := by
    rw [← Bool.decide_or]; apply decide_eq_decide.mpr; omega
  rw [cmpInt_hf (by omega), cmp_lt_iff, cmp_eq_iff, e]
  exact h
theorem w_gt_hi (hx : x = hf a) (ha : a.natAbs < 2 ^ 52) (h : Q (.bool (decide (2 * b < a))) s) : wpAny (model prog w) A (compareOp .Gt (.float x t) (.int b u)) Q E s := by
  subst hx
  refine gt_fi ?_
  rw [cmpInt_hf (by omega), cmp_gt_iff]; exact h
theorem w_ne_hh (hx : x = hf a) (hy : y = hf b) (ha : a.natAbs < 2 ^ 52) (hb : b.natAbs < 2 ^ 52) (h : Q (.bool (decide (a ≠ b))) s) : wpAny (model prog w) A (compareOp .NotEq (.float x t) (.float y u)) Q E s := by
  subst hx; subst hy
  refine AutoFloatOps.ne_0 ?_
  unfold bne
  rw [cmp_hf (by omega) (by omega), cmp_eq_iff]
  have : (!decide (a = b)) = decide (a ≠ b) := by by_cases q : a = b <;> simp [q]
  rw [this]; exact h
/-- x is below the whole number c; x is c or more -/
def VLT (x : UInt64) (c : Int) : Prop := (∃ s m e, Float64.decode x = .fin s m e) ∧ Float64.val x < c * 1048576 * U
def VGE (x : UInt64) (c : Int) : Prop := (∃ s m e, Float64.decode x = .fin s m e) ∧ c * 1048576 * U ≤ Float64.val x
theorem vlt_or {c : Int} (h : FB x lo hi) : VLT x c ∨ VGE x c := by
  rcases Int.lt_or_le (Float64.val x) (c * 1048576 * U) with q | q
  · exact .inl ⟨h.1, q⟩
  · exact .inr ⟨h.1, q⟩
theorem vge_of {c : Int} (h : FB x lo hi) (q : c * 1048576 ≤ lo) : VGE x c := ⟨h.1, Int.le_trans (Int.mul_le_mul_of_nonneg_right q (Int.le_of_lt U_pos)) h.2.1⟩
theorem vlt_of {c : Int} (h : FB x lo hi) (q : hi < c * 1048576) : VLT x c := ⟨h.1, Int.lt_of_le_of_lt h.2.2 (Int.mul_lt_mul_of_pos_right q U_pos)⟩
theorem VLT.mono {c d : Int} (h : VLT x c) (q : c ≤ d) : VLT x d := ⟨h.1, Int.lt_of_lt_of_le h.2 (Int.mul_le_mul_of_nonneg_right (Int.mul_le_mul_of_nonneg_right q (by decide)) (Int.le_of_lt U_pos))⟩
theorem VGE.mono {c d : Int} (h : VGE x c) (q : d ≤ c) : VGE x d := ⟨h.1, Int.le_trans (Int.mul_le_mul_of_nonneg_right (Int.mul_le_mul_of_nonneg_right q (by decide)) (Int.le_of_lt U_pos)) h.2⟩
theorem vlt_cmp {c : Int} (h : VLT x c) : Float64.cmpInt x c = some .lt := by
  obtain ⟨⟨s, m, e, hd⟩, q⟩ := h
  rw [Float64.cmpInt_right hd, unit_scale, Int.compare_eq_lt.mpr q]
theorem vge_cmp {c : Int} (h : VGE x c) : (Float64.cmpInt x c == some .lt) = false ∧ (Float64.cmpInt x c == some .gt || Float64.cmpInt x c == some .eq) = true := by
  obtain ⟨⟨s, m, e, hd⟩, q⟩ := h
  rw [Float64.cmpInt_right hd, unit_scale]
  constructor
  · rw [cmp_lt_iff]; exact decide_eq_false (by omega)
  · rw [cmp_gt_iff, cmp_eq_iff, ← Bool.decide_or]; exact decide_eq_true (by omega)
theorem w_gt_if_t {c : Int} (hx : VLT x c) (q : c ≤ b) (h : Q (.bool true) s) : wpAny (model prog w) A (compareOp .Gt (.int b u) (.float x t)) Q E s := by
  refine gt_if ?_
  rw [vlt_cmp (hx.mono q)]; exact h
theorem w_gt_if_f {c : Int} (hx : VGE x c) (q : b ≤ c) (h : Q (.bool false) s) : wpAny (model prog w) A (compareOp .Gt (.int b u) (.float x t)) Q E s := by
  refine gt_if ?_
  rw [(vge_cmp (hx.mono q)).1]; exact h
theorem w_le_if_t {c : Int} (hx : VGE x c) (q : b ≤ c) (h : Q (.bool true) s) : wpAny (model prog w) A (compareOp .LtE (.int b u) (.float x t)) Q E s := by
  refine le_if ?_
  rw [(vge_cmp (hx.mono q)).2]; exact h
theorem w_lt_fi_t {c : Int} (hx : VLT x c) (q : c ≤ b) (h : Q (.bool true) s) : wpAny (model prog w) A (compareOp .Lt (.float x t) (.int b u)) Q E s := by
  refine lt_fi ?_
  rw [vlt_cmp (hx.mono q)]; exact h
theorem w_lt_fi_f {c : Int} (hx : VGE x c) (q : b ≤ c) (h : Q (.bool false) s) : wpAny (model prog w) A (compareOp .Lt (.float x t) (.int b u)) Q E s := by
  refine lt_fi ?_
  rw [(vge_cmp (hx.mono q)).1]; exact h
end
end

section
open PySem PySem.Flt PySem.W PySem.Spec PySem.Calls PyProof.Rows


/-- a call that hands back a value and makes nothing that stays -/
def CallV (prog : Program) (w : World) (k : Nat) (led : List (Addr × Obj)) (f : Addr) (vs : List Value) (R : Tok → Value) : Prop :=
  ∀ (dp un : Nat) (gd : Option (List Code)) (cn : Str) (cs : Scope) (a : Addr) (ccd : Value) (cl : List (Str × Addr)) (outer : List Env) (A₀ : Around) (base h₀ : Heap) (L : Addr) (m : Str → Option Value) (news : List (Addr × Obj)) (s : Shared)
    (p : Program) (loose : List Str) (mean : ExcName → Option Value) (mg mb : Str → Option Value) (Q E : Value → Shared → Prop),
    Below A₀ base outer h₀ → Fr h₀ L s.heap m → (hd.heap_39 w.params).In h₀ → News h₀ L s.heap news → Top p loose mean mg mb h₀ → cs.kind = .function → (∀ q ∈ led, q ∈ news) →
    dp + k < recursionLimit → un + 8 * k < cLine →
    (∀ (t : Tok) (h' : Heap) (tk' : Nat), Fr h₀ L h' m → News h₀ L h' news → Q (R t) { s with heap := h', toks := tk' }) →
    wpAny (model prog w) (ktrTop dp un gd cn cs L a ccd cl outer) (call (.ref f) vs) Q E s

theorem CallV.use {prog : Program} {w : World} {k : Nat} {led : List (Addr × Obj)} {f : Addr} {vs : List Value} {R : Tok → Value} (C : CallV prog w k led f vs R)
    {dp un : Nat} {gd : Option (List Code)} {cn : Str} {cs : Scope} {a : Addr} {ccd : Value} {cl : List (Str × Addr)} {outer : List Env} {A₀ : Around} {base h₀ : Heap} {L : Addr} {m : Str → Option Value} {news : List (Addr × Obj)} {s : Shared}
    {p : Program} {loose : List Str} {mean : ExcName → Option Value} {mg mb : Str → Option Value} {Q E : Value → Shared → Prop}
    (B : Below A₀ base outer h₀) (F : Fr h₀ L s.heap m) (X : (hd.heap_39 w.params).In h₀) (N : News h₀ L s.heap news) (T : Top p loose mean mg mb h₀) (hk : cs.kind = .function) (hl : ∀ q ∈ led, q ∈ news)
    (h1 : dp + k < recursionLimit) (h2 : un + 8 * k < cLine)
    (ret : ∀ (t : Tok) (h' : Heap) (tk' : Nat), Fr h₀ L h' m → News h₀ L h' news → Q (R t) { s with heap := h', toks := tk' }) :
    wpAny (model prog w) (ktrTop dp un gd cn cs L a ccd cl outer) (call (.ref f) vs) Q E s :=
  C _ _ _ _ _ _ _ _ _ _ _ _ _ _ _ _ _ _ _ _ _ _ _ B F X N T hk hl h1 h2 ret

theorem CallV.endF {h₀ h' : Heap} {L : Addr} {m : Str → Option Value} {news : List (Addr × Obj)} {s : Shared} {Q : Value → Shared → Prop} {t : Tok} {tk' : Nat} {x y : Int}
    (hret : ∀ (t : Tok) (h' : Heap) (tk' : Nat), Fr h₀ L h' m → News h₀ L h' news → Q (.float (hf x) t) { s with heap := h', toks := tk' }) (e : y = x) (F : Fr h₀ L h' m) (N : News h₀ L h' news) : Q (.float (hf y) t) { s with heap := h', toks := tk' } := by
  subst e
  exact hret t h' tk' F N
theorem sub_nil {news : List (Addr × Obj)} : ∀ q ∈ ([] : List (Addr × Obj)), q ∈ news := fun _ h => nomatch h
theorem sub_cons {p : Addr × Obj} {led news : List (Addr × Obj)} (h : ∀ q ∈ led, q ∈ news) : ∀ q ∈ led, q ∈ p :: news := fun q hq => .tail _ (h q hq)
theorem sub_both {p : Addr × Obj} {led news : List (Addr × Obj)} (h1 : p ∈ news) (h : ∀ q ∈ led, q ∈ news) : ∀ q ∈ p :: led, q ∈ news := fun q hq => by
  rcases List.mem_cons.mp hq with rfl | hq
  · exact h1
  · exact h q hq

section
variable {prog : Program} {w : World} {A : Around} {E : Value → Shared → Prop} {s : Shared} {K : Frag} {a L : Addr} {h₀ : Heap} {m : Str → Option Value} {l : List Value} {ns : List Int} {n : Nat} {dd : Option Addr} {sl : Array (Option Value)} {k : Int} {t : Tok} {Q : Value → Shared → Prop}
theorem topIn_ints (F : Fr h₀ L s.heap m) (X₀ : K.In h₀) (hl : K.lookup a = some ⟨.type "tuple", dd, .seq l.toArray n, sl⟩) (hi : IntsAre l ns) (h : Q (.bool (ns.any (· == k))) s) :
    wpAny (model prog w) A (compareOp .In (.int k t) (.ref a)) Q E s := in_tuple_ints (tupK (X₀.keeps F.keep) hl) hi h
end
local macro_rules | `(tactic| walk_at "compareOp In int ref") => `(tactic| (k_here; k_dflt (refine' topIn_ints ?F ?X ?l ?i ?_; (case F => k_asm); (case X => k_asm); (case l => k_is); (case i => repeat constructor); k_whole; (try simp only [List.any_cons, List.any_nil, Bool.or_false]))))
local macro_rules | `(tactic| walk_at "binaryOp Sub float float") => `(tactic| first
  | (with_plain (refine' w_sub_hh ?hx ?hy ?ha ?hb ?_; (case hx => with_reducible (first | exact rfl | exact epochG_hf | exact epochP_hf | exact half_hf)); (case hy => with_reducible (first | exact rfl | exact epochG_hf | exact epochP_hf | exact half_hf)); (case ha => omega); (case hb => omega); (try dsimp only)))
  | (with_plain (refine' w_sub_ff ?hx ?hy ?hl ?hh ?_; (case hx => first | with_reducible assumption | exact fb_half | exact fb_trop | exact fb_epochP | exact fb_hf (by omega)); (case hy => first | with_reducible assumption | exact fb_half | exact fb_trop | exact fb_epochP | exact fb_hf (by omega)); (case hl => omega); (case hh => omega); (try dsimp only)); intro z9 fz9))
local macro_rules | `(tactic| walk_at "binaryOp Add float float") => `(tactic| first
  | (with_plain (refine' w_add_hh ?hx ?hy ?ha ?hb ?_; (case hx => with_reducible (first | exact rfl | exact epochG_hf | exact epochP_hf | exact half_hf)); (case hy => with_reducible (first | exact rfl | exact epochG_hf | exact epochP_hf | exact half_hf)); (case ha => omega); (case hb => omega); (try dsimp only)))
  | (with_plain (refine' w_add_ff ?hx ?hy ?hl ?hh ?_; (case hx => first | with_reducible assumption | exact fb_half | exact fb_trop | exact fb_epochP | exact fb_hf (by omega)); (case hy => first | with_reducible assumption | exact fb_half | exact fb_trop | exact fb_epochP | exact fb_hf (by omega)); (case hl => omega); (case hh => omega); (try dsimp only)); intro z9 fz9))
local macro_rules | `(tactic| walk_at "binaryOp Sub float int") => `(tactic| first
  | (with_plain (refine' w_sub_hi ?hx ?ha ?hb ?_; (case hx => with_reducible (first | exact rfl | exact epochG_hf | exact epochP_hf | exact half_hf)); (case ha => omega); (case hb => omega); (try dsimp only))))
local macro_rules | `(tactic| walk_at "binaryOp Add float int") => `(tactic| first
  | (with_plain (refine' w_add_hi ?hx ?ha ?hb ?_; (case hx => with_reducible (first | exact rfl | exact epochG_hf | exact epochP_hf | exact half_hf)); (case ha => omega); (case hb => omega); (try dsimp only)))
  | (with_plain (refine' w_add_fi ?hx ?hb ?hl ?hh ?_; (case hx => first | with_reducible assumption | exact fb_trop | exact fb_epochP); (case hb => omega); (case hl => omega); (case hh => omega); (try dsimp only)); intro z9 fz9)
  | (with_plain (refine' w_add_qi ?hb ?ha ?hc ?_; (case hb => omega); (case ha => omega); (case hc => omega); (try dsimp only)); intro z9 q9 fz9 lq9 uq9))
local macro_rules | `(tactic| walk_at "binaryOp Add int float") => `(tactic| first
  | (with_plain (refine' w_add_ih ?hx ?ha ?hb ?_; (case hx => with_reducible (first | exact rfl | exact epochG_hf | exact epochP_hf | exact half_hf)); (case ha => omega); (case hb => omega); (try dsimp only)))
  | (with_plain (refine' w_add_if ?hx ?hb ?hl ?hh ?_; (case hx => first | with_reducible assumption | exact fb_trop | exact fb_epochP); (case hb => omega); (case hl => omega); (case hh => omega); (try dsimp only)); intro z9 fz9))
local macro_rules | `(tactic| walk_at "binaryOp Sub int float") => `(tactic| first
  | (with_plain (refine' w_sub_ih ?hx ?ha ?hb ?_; (case hx => with_reducible (first | exact rfl | exact epochG_hf | exact epochP_hf | exact half_hf)); (case ha => omega); (case hb => omega); (try dsimp only))))
local macro_rules | `(tactic| walk_at "binaryOp Mult float int") => `(tactic| first
  | (with_plain (refine' w_mul_hi ?hx ?ha ?hb ?hb2 ?_; (case hx => with_reducible (first | exact rfl | exact epochG_hf | exact epochP_hf | exact half_hf)); (case ha => omega); (case hb => omega); (case hb2 => omega); (try dsimp only)))
  | (with_plain (refine' w_mul_Ti ?hk ?_; (case hk => omega); (try dsimp only)); intro z9 l9 r9 fz9 b19 b29 b39 b49 b59))
local macro_rules | `(tactic| walk_at "binaryOp Mod float int") => `(tactic| first
  | (with_plain (refine' w_mod_hi ?hx ?ha ?he ?hb ?hb2 ?_; (case hx => with_reducible (first | exact rfl | exact epochG_hf | exact epochP_hf | exact half_hf)); (case ha => omega); (case he => omega); (case hb => omega); (case hb2 => omega); (try dsimp only)); intro q9 r9 e9 l9 u9))
local macro_rules | `(tactic| walk_at "binaryOp Div float int") => `(tactic| first
  | (with_plain (refine' w_div_hi ?hb ?hb2 ?_; (case hb => omega); (case hb2 => omega); (try dsimp only))))
local macro_rules | `(tactic| walk_at "binaryOp Div float float") => `(tactic| first
  | (with_plain (refine' w_div_hT  ?_; (try dsimp only))))
local macro_rules | `(tactic| walk_at "binaryOp Div int int") => `(tactic| first
  | (with_plain (refine' w_div_ii ?hA ?hb ?ha ?_; (case hA => exact rfl); (case hb => omega); (case ha => omega); (try dsimp only))))
local macro_rules | `(tactic| walk_at "call builtin:math.floor") => `(tactic| first
  | (with_plain (refine' w_floor_h ?hA ?ha ?_; (case hA => exact rfl); (case ha => omega); (try dsimp only)); intro n9 l9 u9)
  | (with_plain (refine' w_floor_q ?hA ?ha ?hb ?hb2 ?_; (case hA => exact rfl); (case ha => omega); (case hb => omega); (case hb2 => omega); (try dsimp only)); intro n9 l9 u9)
  | (with_plain (refine' w_floor_ii ?hA ?ha ?hb ?hb2 ?_; (case hA => exact rfl); (case ha => omega); (case hb => omega); (case hb2 => omega); (try dsimp only)); intro n9 l9 u9)
  | (with_plain (refine' w_floor_fb ?hA ?hx ?_; (case hA => exact rfl); (case hx => with_reducible assumption); (try dsimp only)); intro n9 l9 u9))
local macro_rules | `(tactic| walk_at "call builtin:math.ceil") => `(tactic| first
  | (with_plain (refine' w_ceil_q ?hA ?ha ?hb ?hb2 ?_; (case hA => exact rfl); (case ha => omega); (case hb => omega); (case hb2 => omega); (try dsimp only)); intro n9 l9 u9))
local macro_rules | `(tactic| walk_at "call type:int") => `(tactic| first
  | (with_plain (refine' w_int_h ?hA ?ha ?he ?_; (case hA => exact rfl); (case ha => omega); (case he => omega); (try dsimp only)); intro n9 e9))
local macro_rules | `(tactic| walk_at "call builtin:round") => `(tactic| first
  | (with_plain (refine' w_round_T ?hA ?hR ?ha ?hk ?h1 ?h2 ?_; (case hA => exact rfl); (case hR => with_reducible assumption); (case ha => omega); (case hk => omega); (case h1 => omega); (case h2 => omega); (try dsimp only))))
local macro_rules | `(tactic| walk_at "compareOp Lt float int") => `(tactic| first
  | (with_plain (refine' w_lt_hi ?hx ?ha ?_; (case hx => with_reducible (first | exact rfl | exact epochG_hf | exact epochP_hf | exact half_hf)); (case ha => omega); (try dsimp only)))
  | (with_plain (refine' w_lt_fi_t ?hx ?hq ?_; (case hx => assumption); (case hq => omega); (try dsimp only)))
  | (with_plain (refine' w_lt_fi_f ?hx ?hq ?_; (case hx => assumption); (case hq => omega); (try dsimp only))))
local macro_rules | `(tactic| walk_at "compareOp LtE float int") => `(tactic| first
  | (with_plain (refine' w_le_hi ?hx ?ha ?_; (case hx => with_reducible (first | exact rfl | exact epochG_hf | exact epochP_hf | exact half_hf)); (case ha => omega); (try dsimp only))))
local macro_rules | `(tactic| walk_at "compareOp Gt float int") => `(tactic| first
  | (with_plain (refine' w_gt_hi ?hx ?ha ?_; (case hx => with_reducible (first | exact rfl | exact epochG_hf | exact epochP_hf | exact half_hf)); (case ha => omega); (try dsimp only))))
local macro_rules | `(tactic| walk_at "compareOp Gt int float") => `(tactic| first
  | (with_plain (refine' w_gt_if_t ?hx ?hq ?_; (case hx => assumption); (case hq => omega); (try dsimp only)))
  | (with_plain (refine' w_gt_if_f ?hx ?hq ?_; (case hx => assumption); (case hq => omega); (try dsimp only))))
local macro_rules | `(tactic| walk_at "compareOp LtE int float") => `(tactic| first
  | (with_plain (refine' w_le_if_t ?hx ?hq ?_; (case hx => assumption); (case hq => omega); (try dsimp only))))
local macro_rules | `(tactic| walk_at "compareOp NotEq float float") => `(tactic| first
  | (with_plain (refine' w_ne_hh ?hx ?hy ?ha ?hb ?_; (case hx => with_reducible (first | exact rfl | exact epochG_hf | exact epochP_hf | exact half_hf)); (case hy => with_reducible (first | exact rfl | exact epochG_hf | exact epochP_hf | exact half_hf)); (case ha => omega); (case hb => omega); (try dsimp only))))


def leapB (y : Int) : Bool := decide (y % 4 = 0) && (decide (y % 100 ≠ 0) || decide (y % 400 = 0))

theorem c_isleap (prog : Program) (w : World) (y : Int) (t : Tok) : CallV prog w 2 [] 50 [.int y t] (fun _ => .bool (leapB y)) := by
  unfold CallV
  intro dp un gd cn cs a ccd cl outer A₀ base h₀ L m news s p loose mean mg mb Q E B F X N T hk hl hd hu hret
  refine wpAny_call ?_
  k_dflt cell_enter
  k_steps
  all_goals (refine cb_retB (Q := Q) hret ?e1 ?e2 ?e3; (case e2 => k_asm); (case e3 => k_asm); (case e1 => (unfold leapB; (simp only [Int.fmod_eq_emod_of_nonneg _ (show (0 : Int) ≤ 4 by decide), Int.fmod_eq_emod_of_nonneg _ (show (0 : Int) ≤ 100 by decide), Int.fmod_eq_emod_of_nonneg _ (show (0 : Int) ≤ 400 by decide)] at *); (try simp_all) <;> (first | rfl | (rw [Bool.eq_iff_iff]; simp) | skip))))
local macro_rules | `(tactic| walk_at "call ref") => `(tactic| (k_here; k_dflt (refine' CallV.use (c_isleap _ _ _ _) ?cB ?cF ?cX ?cN ?cT ?cK ?cl ?cd ?cu ?_; (case cB => k_asm); (case cF => k_asm); (case cX => k_asm); (case cN => k_asm); (case cT => k_asm); (case cK => first | exact rfl | assumption); (case cl => (repeat' (first | exact sub_nil | assumption | refine sub_both (by k_mem) ?_ | refine sub_cons ?_))); (case cd => ktr_room); (case cu => ktr_units)); (intro t9 h9 tk9 F9 N9; (try dsimp only); (try k_fold))))

theorem c_legal (prog : Program) (w : World) (y m9 d9 : Int) (t1 t2 t3 : Tok) (h1 : 1 ≤ d9) (h2 : d9 ≤ 28) : CallV prog w 4 [] 57 [.int y t1, .int m9 t2, .int d9 t3] (fun _ => .bool true) := by
  unfold CallV
  intro dp un gd cn cs a ccd cl outer A₀ base h₀ L m news s p loose mean mg mb Q E B F X N T hk hl hd hu hret
  refine wpAny_call ?_
  k_dflt cell_enter
  k_steps
  all_goals (refine cb_retB (Q := Q) hret ?e1 ?e2 ?e3; (case e2 => k_asm); (case e3 => k_asm); (case e1 => rfl))
local macro_rules | `(tactic| walk_at "call ref") => `(tactic| (k_here; k_dflt (refine' CallV.use (c_legal _ _ _ _ _ _ _ _ ?p1 ?p2) ?cB ?cF ?cX ?cN ?cT ?cK ?cl ?cd ?cu ?_; (case cB => k_asm); (case cF => k_asm); (case cX => k_asm); (case cN => k_asm); (case cT => k_asm); (case cK => first | exact rfl | assumption); (case cl => (repeat' (first | exact sub_nil | assumption | refine sub_both (by k_mem) ?_ | refine sub_cons ?_))); (case cd => ktr_room); (case cu => ktr_units)); (case p1 => omega); (case p2 => omega); (intro t9 h9 tk9 F9 N9; (try dsimp only); (try k_fold))))

def adj (y m9 : Int) : Int := if m9 ≤ 2 then 0 else if leapB y = true then -1 else -2
/-- a Gregorian day's number, in halves -/
def toJ (y m9 d9 : Int) : Int := 3442849 + 2 * (365 * (y - 1) + (y - 1) / 4 - (y - 1) / 100 + (y - 1) / 400 + ((367 * m9 - 362) / 12 + adj y m9 + d9))

theorem quot12 {A q n c1 c2 : Int} (h1 : 12 * q ≤ A * 1048576) (h2 : A * 1048576 < 12 * q + 12) (h3 : q + c1 * 1048576 + c2 * 1048576 < 1048576 * n + 1048576) (h4 : 1048576 * n ≤ q + 1 + c1 * 1048576 + c2 * 1048576) : n = A / 12 + c1 + c2 := by omega
theorem floor4 {y n : Int} (h1 : 4 * n ≤ y - 1) (h2 : y - 1 < 4 * n + 4) : n = (y - 1) / 4 := by omega
theorem floor100 {y n : Int} (h1 : 100 * n ≤ y - 1) (h2 : y - 1 < 100 * n + 100) : n = (y - 1) / 100 := by omega
theorem floor400 {y n : Int} (h1 : 400 * n ≤ y - 1) (h2 : y - 1 < 400 * n + 400) : n = (y - 1) / 400 := by omega
theorem c_toJ (prog : Program) (w : World) (y m9 d9 : Int) (t1 t2 t3 : Tok) (h1 : 1 ≤ d9) (h2 : d9 ≤ 28) (h3 : 1 ≤ m9) (h4 : m9 ≤ 12) (h5 : -100000 < y) (h6 : y < 100000) : CallV prog w 6 [] 64 [.int y t1, .int m9 t2, .int d9 t3] (fun t => .float (hf (toJ y m9 d9)) t) := by
  unfold CallV
  intro dp un gd cn cs a ccd cl outer A₀ base h₀ L m news s p loose mean mg mb Q E B F X N T hk hl hd hu hret
  refine wpAny_call ?_
  k_dflt cell_enter
  k_steps
  all_goals (refine CallV.endF (Q := Q) hret ?e1 ?e2 ?e3; (case e2 => k_asm); (case e3 => k_asm); (case e1 => (
    (have q1 := quot12 (by assumption) (by assumption) (by assumption) (by assumption)); (have q2 := floor4 (by assumption) (by assumption)); (have q3 := floor100 (by assumption) (by assumption)); (have q4 := floor400 (by assumption) (by assumption));
    rw [q1, q2, q3, q4]; unfold toJ adj; first | (rw [if_pos (by assumption)]; omega) | (rw [if_neg (by assumption), if_pos (by assumption)]; omega) | (rw [if_neg (by assumption), if_neg (by simp_all)]; omega))))
end

section
open PySem PySem.Flt PySem.W PySem.Spec PySem.Calls PyProof.Rows

local macro_rules | `(tactic| walk_at "compareOp In int ref") => `(tactic| (k_here; k_dflt (refine' topIn_ints ?F ?X ?l ?i ?_; (case F => k_asm); (case X => k_asm); (case l => k_is); (case i => repeat constructor); k_whole; (try simp only [List.any_cons, List.any_nil, Bool.or_false]))))

local macro_rules | `(tactic| walk_at "binaryOp Sub float float") => `(tactic| first
  | (with_plain (refine' w_sub_hh ?hx ?hy ?ha ?hb ?_; (case hx => with_reducible (first | exact rfl | exact epochG_hf | exact epochP_hf | exact half_hf)); (case hy => with_reducible (first | exact rfl | exact epochG_hf | exact epochP_hf | exact half_hf)); (case ha => omega); (case hb => omega); (try dsimp only)))
  | (with_plain (refine' w_sub_ff ?hx ?hy ?hl ?hh ?_; (case hx => first | with_reducible assumption | exact fb_half | exact fb_trop | exact fb_epochP | exact fb_hf (by omega)); (case hy => first | with_reducible assumption | exact fb_half | exact fb_trop | exact fb_epochP | exact fb_hf (by omega)); (case hl => omega); (case hh => omega); (try dsimp only)); intro z9 fz9))
local macro_rules | `(tactic| walk_at "binaryOp Add float float") => `(tactic| first
  | (with_plain (refine' w_add_hh ?hx ?hy ?ha ?hb ?_; (case hx => with_reducible (first | exact rfl | exact epochG_hf | exact epochP_hf | exact half_hf)); (case hy => with_reducible (first | exact rfl | exact epochG_hf | exact epochP_hf | exact half_hf)); (case ha => omega); (case hb => omega); (try dsimp only)))
  | (with_plain (refine' w_add_ff ?hx ?hy ?hl ?hh ?_; (case hx => first | with_reducible assumption | exact fb_half | exact fb_trop | exact fb_epochP | exact fb_hf (by omega)); (case hy => first | with_reducible assumption | exact fb_half | exact fb_trop | exact fb_epochP | exact fb_hf (by omega)); (case hl => omega); (case hh => omega); (try dsimp only)); intro z9 fz9))
local macro_rules | `(tactic| walk_at "binaryOp Sub float int") => `(tactic| first
  | (with_plain (refine' w_sub_hi ?hx ?ha ?hb ?_; (case hx => with_reducible (first | exact rfl | exact epochG_hf | exact epochP_hf | exact half_hf)); (case ha => omega); (case hb => omega); (try dsimp only))))
local macro_rules | `(tactic| walk_at "binaryOp Add float int") => `(tactic| first
  | (with_plain (refine' w_add_hi ?hx ?ha ?hb ?_; (case hx => with_reducible (first | exact rfl | exact epochG_hf | exact epochP_hf | exact half_hf)); (case ha => omega); (case hb => omega); (try dsimp only)))
  | (with_plain (refine' w_add_fi ?hx ?hb ?hl ?hh ?_; (case hx => first | with_reducible assumption | exact fb_trop | exact fb_epochP); (case hb => omega); (case hl => omega); (case hh => omega); (try dsimp only)); intro z9 fz9)
  | (with_plain (refine' w_add_qi ?hb ?ha ?hc ?_; (case hb => omega); (case ha => omega); (case hc => omega); (try dsimp only)); intro z9 q9 fz9 lq9 uq9))
local macro_rules | `(tactic| walk_at "binaryOp Add int float") => `(tactic| first
  | (with_plain (refine' w_add_ih ?hx ?ha ?hb ?_; (case hx => with_reducible (first | exact rfl | exact epochG_hf | exact epochP_hf | exact half_hf)); (case ha => omega); (case hb => omega); (try dsimp only)))
  | (with_plain (refine' w_add_if ?hx ?hb ?hl ?hh ?_; (case hx => first | with_reducible assumption | exact fb_trop | exact fb_epochP); (case hb => omega); (case hl => omega); (case hh => omega); (try dsimp only)); intro z9 fz9))
local macro_rules | `(tactic| walk_at "binaryOp Sub int float") => `(tactic| first
  | (with_plain (refine' w_sub_ih ?hx ?ha ?hb ?_; (case hx => with_reducible (first | exact rfl | exact epochG_hf | exact epochP_hf | exact half_hf)); (case ha => omega); (case hb => omega); (try dsimp only))))
local macro_rules | `(tactic| walk_at "binaryOp Mult float int") => `(tactic| first
  | (with_plain (refine' w_mul_hi ?hx ?ha ?hb ?hb2 ?_; (case hx => with_reducible (first | exact rfl | exact epochG_hf | exact epochP_hf | exact half_hf)); (case ha => omega); (case hb => omega); (case hb2 => omega); (try dsimp only)))
  | (with_plain (refine' w_mul_Ti ?hk ?_; (case hk => omega); (try dsimp only)); intro z9 l9 r9 fz9 b19 b29 b39 b49 b59))
local macro_rules | `(tactic| walk_at "binaryOp Mod float int") => `(tactic| first
  | (with_plain (refine' w_mod_hi ?hx ?ha ?he ?hb ?hb2 ?_; (case hx => with_reducible (first | exact rfl | exact epochG_hf | exact epochP_hf | exact half_hf)); (case ha => omega); (case he => omega); (case hb => omega); (case hb2 => omega); (try dsimp only)); intro q9 r9 e9 l9 u9))
local macro_rules | `(tactic| walk_at "binaryOp Div float int") => `(tactic| first
  | (with_plain (refine' w_div_hi ?hb ?hb2 ?_; (case hb => omega); (case hb2 => omega); (try dsimp only))))
local macro_rules | `(tactic| walk_at "binaryOp Div float float") => `(tactic| first
  | (with_plain (refine' w_div_hT  ?_; (try dsimp only))))
local macro_rules | `(tactic| walk_at "binaryOp Div int int") => `(tactic| first
  | (with_plain (refine' w_div_ii ?hA ?hb ?ha ?_; (case hA => exact rfl); (case hb => omega); (case ha => omega); (try dsimp only))))
local macro_rules | `(tactic| walk_at "call builtin:math.floor") => `(tactic| first
  | (with_plain (refine' w_floor_h ?hA ?ha ?_; (case hA => exact rfl); (case ha => omega); (try dsimp only)); intro n9 l9 u9)
  | (with_plain (refine' w_floor_q ?hA ?ha ?hb ?hb2 ?_; (case hA => exact rfl); (case ha => omega); (case hb => omega); (case hb2 => omega); (try dsimp only)); intro n9 l9 u9)
  | (with_plain (refine' w_floor_ii ?hA ?ha ?hb ?hb2 ?_; (case hA => exact rfl); (case ha => omega); (case hb => omega); (case hb2 => omega); (try dsimp only)); intro n9 l9 u9)
  | (with_plain (refine' w_floor_fb ?hA ?hx ?_; (case hA => exact rfl); (case hx => with_reducible assumption); (try dsimp only)); intro n9 l9 u9))
local macro_rules | `(tactic| walk_at "call builtin:math.ceil") => `(tactic| first
  | (with_plain (refine' w_ceil_q ?hA ?ha ?hb ?hb2 ?_; (case hA => exact rfl); (case ha => omega); (case hb => omega); (case hb2 => omega); (try dsimp only)); intro n9 l9 u9))
local macro_rules | `(tactic| walk_at "call type:int") => `(tactic| first
  | (with_plain (refine' w_int_h ?hA ?ha ?he ?_; (case hA => exact rfl); (case ha => omega); (case he => omega); (try dsimp only)); intro n9 e9))
local macro_rules | `(tactic| walk_at "call builtin:round") => `(tactic| first
  | (with_plain (refine' w_round_T ?hA ?hR ?ha ?hk ?h1 ?h2 ?_; (case hA => exact rfl); (case hR => with_reducible assumption); (case ha => omega); (case hk => omega); (case h1 => omega); (case h2 => omega); (try dsimp only))))
local macro_rules | `(tactic| walk_at "compareOp Lt float int") => `(tactic| first
  | (with_plain (refine' w_lt_hi ?hx ?ha ?_; (case hx => with_reducible (first | exact rfl | exact epochG_hf | exact epochP_hf | exact half_hf)); (case ha => omega); (try dsimp only)))
  | (with_plain (refine' w_lt_fi_t ?hx ?hq ?_; (case hx => assumption); (case hq => omega); (try dsimp only)))
  | (with_plain (refine' w_lt_fi_f ?hx ?hq ?_; (case hx => assumption); (case hq => omega); (try dsimp only))))
local macro_rules | `(tactic| walk_at "compareOp LtE float int") => `(tactic| first
  | (with_plain (refine' w_le_hi ?hx ?ha ?_; (case hx => with_reducible (first | exact rfl | exact epochG_hf | exact epochP_hf | exact half_hf)); (case ha => omega); (try dsimp only))))
local macro_rules | `(tactic| walk_at "compareOp Gt float int") => `(tactic| first
  | (with_plain (refine' w_gt_hi ?hx ?ha ?_; (case hx => with_reducible (first | exact rfl | exact epochG_hf | exact epochP_hf | exact half_hf)); (case ha => omega); (try dsimp only))))
local macro_rules | `(tactic| walk_at "compareOp Gt int float") => `(tactic| first
  | (with_plain (refine' w_gt_if_t ?hx ?hq ?_; (case hx => assumption); (case hq => omega); (try dsimp only)))
  | (with_plain (refine' w_gt_if_f ?hx ?hq ?_; (case hx => assumption); (case hq => omega); (try dsimp only))))
local macro_rules | `(tactic| walk_at "compareOp LtE int float") => `(tactic| first
  | (with_plain (refine' w_le_if_t ?hx ?hq ?_; (case hx => assumption); (case hq => omega); (try dsimp only))))
local macro_rules | `(tactic| walk_at "compareOp NotEq float float") => `(tactic| first
  | (with_plain (refine' w_ne_hh ?hx ?hy ?ha ?hb ?_; (case hx => with_reducible (first | exact rfl | exact epochG_hf | exact epochP_hf | exact half_hf)); (case hy => with_reducible (first | exact rfl | exact epochG_hf | exact epochP_hf | exact half_hf)); (case ha => omega); (case hb => omega); (try dsimp only))))


/-- a tuple of the call's own -/
abbrev tupO (vs : List Value) : Obj := { cls := .type "tuple", data := .seq vs.toArray 0 }

/-- a call that hands back a new tuple of three ints -/
def CallT (prog : Program) (w : World) (k : Nat) (led : List (Addr × Obj)) (f : Addr) (vs : List Value) (P : Int → Int → Int → Prop) : Prop :=
  ∀ (dp un : Nat) (gd : Option (List Code)) (cn : Str) (cs : Scope) (a : Addr) (ccd : Value) (cl : List (Str × Addr)) (outer : List Env) (A₀ : Around) (base h₀ : Heap) (L : Addr) (m : Str → Option Value) (news : List (Addr × Obj)) (s : Shared)
    (p : Program) (loose : List Str) (mean : ExcName → Option Value) (mg mb : Str → Option Value) (Q E : Value → Shared → Prop),
    Below A₀ base outer h₀ → Fr h₀ L s.heap m → (hd.heap_39 w.params).In h₀ → News h₀ L s.heap news → Top p loose mean mg mb h₀ → cs.kind = .function → (∀ q ∈ led, q ∈ news) →
    dp + k < recursionLimit → un + 8 * k < cLine →
    (∀ (a : Addr) (x y z : Int) (t1 t2 t3 : Tok) (h' : Heap) (tk' : Nat), P x y z → Fr h₀ L h' m → News h₀ L h' ((a, tupO [.int x t1, .int y t2, .int z t3]) :: news) → Q (.ref a) { s with heap := h', toks := tk' }) →
    wpAny (model prog w) (ktrTop dp un gd cn cs L a ccd cl outer) (call (.ref f) vs) Q E s

theorem CallT.use {prog : Program} {w : World} {k : Nat} {led : List (Addr × Obj)} {f : Addr} {vs : List Value} {P : Int → Int → Int → Prop} (C : CallT prog w k led f vs P)
    {dp un : Nat} {gd : Option (List Code)} {cn : Str} {cs : Scope} {a : Addr} {ccd : Value} {cl : List (Str × Addr)} {outer : List Env} {A₀ : Around} {base h₀ : Heap} {L : Addr} {m : Str → Option Value} {news : List (Addr × Obj)} {s : Shared}
    {p : Program} {loose : List Str} {mean : ExcName → Option Value} {mg mb : Str → Option Value} {Q E : Value → Shared → Prop}
    (B : Below A₀ base outer h₀) (F : Fr h₀ L s.heap m) (X : (hd.heap_39 w.params).In h₀) (N : News h₀ L s.heap news) (T : Top p loose mean mg mb h₀) (hk : cs.kind = .function) (hl : ∀ q ∈ led, q ∈ news)
    (h1 : dp + k < recursionLimit) (h2 : un + 8 * k < cLine)
    (ret : ∀ (a : Addr) (x y z : Int) (t1 t2 t3 : Tok) (h' : Heap) (tk' : Nat), P x y z → Fr h₀ L h' m → News h₀ L h' ((a, tupO [.int x t1, .int y t2, .int z t3]) :: news) → Q (.ref a) { s with heap := h', toks := tk' }) :
    wpAny (model prog w) (ktrTop dp un gd cn cs L a ccd cl outer) (call (.ref f) vs) Q E s :=
  C _ _ _ _ _ _ _ _ _ _ _ _ _ _ _ _ _ _ _ _ _ _ _ B F X N T hk hl h1 h2 ret

/-- the days before the first of January of y, from that of the year 1 -/
def jan0 (y : Int) : Int := 365 * (y - 1) + (y - 1) / 4 - (y - 1) / 100 + (y - 1) / 400
theorem toJ_11 (y : Int) : toJ y 1 1 = 3442851 + 2 * jan0 y := by
  unfold toJ adj jan0
  rw [if_pos (by decide)]
  omega
theorem jan0_next (y : Int) : jan0 (y + 1) = jan0 y + 365 + (if leapB y = true then 1 else 0) := by
  unfold jan0 leapB
  simp only [Bool.and_eq_true, Bool.or_eq_true, decide_eq_true_eq]
  split <;> omega
theorem jan0_mono {a b : Int} (h : a ≤ b) : jan0 a ≤ jan0 b := by
  unfold jan0
  omega

def YearIs (_ : Int) : Prop := True
def LeapIs (g : Int) (b : Bool) : Prop := leapB g = b
def leapI (b : Bool) : Int := if b = true then 1 else 0

/-- a call that hands back a float of halves that is told by P -/
def CallF (prog : Program) (w : World) (k : Nat) (led : List (Addr × Obj)) (f : Addr) (vs : List Value) (P : Int → Prop) : Prop :=
  ∀ (dp un : Nat) (gd : Option (List Code)) (cn : Str) (cs : Scope) (a : Addr) (ccd : Value) (cl : List (Str × Addr)) (outer : List Env) (A₀ : Around) (base h₀ : Heap) (L : Addr) (m : Str → Option Value) (news : List (Addr × Obj)) (s : Shared)
    (p : Program) (loose : List Str) (mean : ExcName → Option Value) (mg mb : Str → Option Value) (Q E : Value → Shared → Prop),
    Below A₀ base outer h₀ → Fr h₀ L s.heap m → (hd.heap_39 w.params).In h₀ → News h₀ L s.heap news → Top p loose mean mg mb h₀ → cs.kind = .function → (∀ q ∈ led, q ∈ news) →
    dp + k < recursionLimit → un + 8 * k < cLine →
    (∀ (j : Int) (t : Tok) (h' : Heap) (tk' : Nat), P j → Fr h₀ L h' m → News h₀ L h' news → Q (.float (hf j) t) { s with heap := h', toks := tk' }) →
    wpAny (model prog w) (ktrTop dp un gd cn cs L a ccd cl outer) (call (.ref f) vs) Q E s
theorem CallF.use {prog : Program} {w : World} {k : Nat} {led : List (Addr × Obj)} {f : Addr} {vs : List Value} {P : Int → Prop} (C : CallF prog w k led f vs P)
    {dp un : Nat} {gd : Option (List Code)} {cn : Str} {cs : Scope} {a : Addr} {ccd : Value} {cl : List (Str × Addr)} {outer : List Env} {A₀ : Around} {base h₀ : Heap} {L : Addr} {m : Str → Option Value} {news : List (Addr × Obj)} {s : Shared}
    {p : Program} {loose : List Str} {mean : ExcName → Option Value} {mg mb : Str → Option Value} {Q E : Value → Shared → Prop}
    (B : Below A₀ base outer h₀) (F : Fr h₀ L s.heap m) (X : (hd.heap_39 w.params).In h₀) (N : News h₀ L s.heap news) (T : Top p loose mean mg mb h₀) (hk : cs.kind = .function) (hl : ∀ q ∈ led, q ∈ news)
    (h1 : dp + k < recursionLimit) (h2 : un + 8 * k < cLine)
    (ret : ∀ (j : Int) (t : Tok) (h' : Heap) (tk' : Nat), P j → Fr h₀ L h' m → News h₀ L h' news → Q (.float (hf j) t) { s with heap := h', toks := tk' }) :
    wpAny (model prog w) (ktrTop dp un gd cn cs L a ccd cl outer) (call (.ref f) vs) Q E s :=
  C _ _ _ _ _ _ _ _ _ _ _ _ _ _ _ _ _ _ _ _ _ _ _ B F X N T hk hl h1 h2 ret
theorem CallV.toF {prog : Program} {w : World} {k : Nat} {led : List (Addr × Obj)} {f : Addr} {vs : List Value} {P : Int → Prop} {j : Int} (C : CallV prog w k led f vs (fun t => .float (hf j) t)) (h : P j) : CallF prog w k led f vs P := by
  unfold CallF
  intro dp un gd cn cs a ccd cl outer A₀ base h₀ L m news s p loose mean mg mb Q E B F X N T hk hl hd hu hret
  exact CallV.use C B F X N T hk hl hd hu fun t h' tk' F' N' => hret j t h' tk' h F' N'

theorem c_isleap_g (prog : Program) (w : World) (y : Int) (t : Tok) {g : Int} {b : Bool} (hb : LeapIs g b) (e : y = g) : CallV prog w 2 [] 50 [.int y t] (fun _ => .bool b) := by
  subst e
  have := c_isleap prog w y t
  rw [show leapB y = b from hb] at this
  exact this
theorem c_toJ_1 (prog : Program) (w : World) (y : Int) (t1 t2 t3 : Tok) {g : Int} (hg : YearIs g) (e : y = g) (h5 : -100000 < g) (h6 : g < 100000) :
    CallV prog w 6 [] 64 [.int y t1, .int 1 t2, .int 1 t3] (fun t => .float (hf (3442851 + 2 * jan0 g)) t) := by
  subst e
  have := c_toJ prog w y 1 1 t1 t2 t3 (by decide) (by decide) (by decide) (by decide) h5 h6
  rw [toJ_11] at this
  exact this
theorem adj_bd (y m9 : Int) : -2 ≤ adj y m9 ∧ adj y m9 ≤ 0 := by
  unfold adj
  split
  · omega
  · split <;> omega
theorem c_toJ_g (prog : Program) (w : World) (y m9 : Int) (t1 t2 t3 : Tok) (h3 : 1 ≤ m9) (h4 : m9 ≤ 12) {g : Int} (hg : YearIs g) (e : y = g) (h5 : -100000 < g) (h6 : g < 100000) :
    CallF prog w 6 [] 64 [.int y t1, .int m9 t2, .int 1 t3] (fun j => ∃ k, j = 3442851 + 2 * (jan0 g + k) ∧ k = (367 * m9 - 362) / 12 + adj g m9 ∧ -2 ≤ k ∧ k ≤ 400) := by
  subst e
  refine CallV.toF (c_toJ prog w y m9 1 t1 t2 t3 (by decide) (by decide) h3 h4 h5 h6) ⟨_, ?_, rfl, ?_, ?_⟩
  · unfold toJ jan0; omega
  · have := adj_bd y m9; omega
  · have := adj_bd y m9; omega

theorem jan0_uniq {g Y D : Int} (h1 : jan0 g ≤ D) (h2 : D < jan0 (g + 1)) (h3 : jan0 Y ≤ D) (h4 : D < jan0 (Y + 1)) : Y = g := by
  rcases Int.lt_trichotomy Y g with h | h | h
  · have := jan0_mono (show Y + 1 ≤ g by omega); omega
  · exact h
  · have := jan0_mono (show g + 1 ≤ Y by omega); omega
theorem jan0_form {q c a b : Int} (hc0 : 0 ≤ c) (hc : c ≤ 3) (ha0 : 0 ≤ a) (ha : a ≤ 24) (hb0 : 0 ≤ b) (hb : b ≤ 3) : jan0 (q * 400 + c * 100 + a * 4 + b + 1) = 146097 * q + 36524 * c + 1461 * a + 365 * b := by
  unfold jan0
  have e1 : (q * 400 + c * 100 + a * 4 + b + 1 - 1) / 4 = 100 * q + 25 * c + a := by omega
  have e2 : (q * 400 + c * 100 + a * 4 + b + 1 - 1) / 100 = 4 * q + c := by omega
  have e3 : (q * 400 + c * 100 + a * 4 + b + 1 - 1) / 400 = q := by omega
  rw [e1, e2, e3]
  omega
theorem leap_400 (q : Int) : leapB (q * 400 + 400) = true := by
  unfold leapB
  have : (q * 400 + 400) % 400 = 0 := by omega
  have : (q * 400 + 400) % 4 = 0 := by omega
  simp_all
theorem year_any {n q4 q1 r1 c qc r2 a qa r3 b g : Int}
    (l1 : 2 * (146097 * q4) ≤ 2 * n + 1 - 3442851) (u1 : 2 * n + 1 - 3442851 < 2 * (146097 * q4) + 2 * 146097)
    (e1 : 2 * n + 1 - 3442851 = 2 * (146097 * q1 + r1)) (l2 : 0 ≤ r1) (u2 : r1 < 146097)
    (l3 : 2 * (36524 * c) ≤ 2 * r1) (u3 : 2 * r1 < 2 * (36524 * c) + 2 * 36524)
    (e2 : 2 * r1 = 2 * (36524 * qc + r2)) (l4 : 0 ≤ r2) (u4 : r2 < 36524)
    (l5 : 2 * (1461 * a) ≤ 2 * r2) (u5 : 2 * r2 < 2 * (1461 * a) + 2 * 1461)
    (e3 : 2 * r2 = 2 * (1461 * qa + r3)) (l6 : 0 ≤ r3) (u6 : r3 < 1461)
    (l7 : 2 * (365 * b) ≤ 2 * r3) (u7 : 2 * r3 < 2 * (365 * b) + 2 * 365)
    (h1 : jan0 g ≤ n - 1721425) (h2 : n - 1721425 < jan0 (g + 1)) :
    (c = 4 ∨ b = 4 → q4 * 400 + c * 100 + a * 4 + b = g) ∧ (c ≠ 4 → b ≠ 4 → q4 * 400 + c * 100 + a * 4 + b + 1 = g) := by
  have eq1 : q1 = q4 := by omega
  have eqc : qc = c := by omega
  have eqa : qa = a := by omega
  subst eq1; subst eqc; subst eqa
  have hc0 : 0 ≤ qc := by omega
  have hc4 : qc ≤ 4 := by omega
  have ha0 : 0 ≤ qa := by omega
  have ha : qa ≤ 24 := by omega
  have hb0 : 0 ≤ b := by omega
  have hb4 : b ≤ 4 := by omega
  have hD : n - 1721425 = 146097 * q1 + 36524 * qc + 1461 * qa + r3 := by omega
  refine ⟨fun h => ?_, fun hc hb => ?_⟩
  · by_cases hc : qc = 4
    · have hr : r2 = 0 := by omega
      have : qa = 0 := by omega
      have : r3 = 0 := by omega
      have : b = 0 := by omega
      have f := jan0_form (q := q1) (c := 3) (a := 24) (b := 3) (by omega) (by omega) (by omega) (by omega) (by omega) (by omega)
      have e9 : q1 * 400 + 3 * 100 + 24 * 4 + 3 + 1 = q1 * 400 + qc * 100 + qa * 4 + b := by omega
      have nx := jan0_next (q1 * 400 + qc * 100 + qa * 4 + b)
      have lp : leapB (q1 * 400 + qc * 100 + qa * 4 + b) = true := by rw [show q1 * 400 + qc * 100 + qa * 4 + b = q1 * 400 + 400 by omega]; exact leap_400 q1
      rw [if_pos lp] at nx
      rw [e9] at f
      exact jan0_uniq h1 h2 (by omega) (by omega)
    · have hb : b = 4 := by omega
      have ha2 : qa ≤ 23 := by omega
      have f := jan0_form (q := q1) (c := qc) (a := qa) (b := 3) (by omega) (by omega) (by omega) (by omega) (by omega) (by omega)
      have e9 : q1 * 400 + qc * 100 + qa * 4 + 3 + 1 = q1 * 400 + qc * 100 + qa * 4 + b := by omega
      have nx := jan0_next (q1 * 400 + qc * 100 + qa * 4 + b)
      have lp : leapB (q1 * 400 + qc * 100 + qa * 4 + b) = true := by
        unfold leapB
        have h4 : (q1 * 400 + qc * 100 + qa * 4 + b) % 4 = 0 := by omega
        have h100 : (q1 * 400 + qc * 100 + qa * 4 + b) % 100 ≠ 0 := by omega
        simp [h4, h100]
      rw [if_pos lp] at nx
      rw [e9] at f
      exact jan0_uniq h1 h2 (by omega) (by omega)
  · have f := jan0_form (q := q1) (c := qc) (a := qa) (b := b) (by omega) (by omega) (by omega) (by omega) (by omega) (by omega)
    have nx := jan0_next (q1 * 400 + qc * 100 + qa * 4 + b + 1)
    have : jan0 (q1 * 400 + qc * 100 + qa * 4 + b + 1) + 365 ≤ jan0 (q1 * 400 + qc * 100 + qa * 4 + b + 1 + 1) := by rw [nx]; split <;> omega
    exact jan0_uniq h1 h2 (by omega) (by omega)

local macro_rules | `(tactic| walk_at "call ref") => `(tactic| (k_here; k_dflt (refine' CallV.use (c_isleap_g _ _ _ _ ?p1 ?p2) ?cB ?cF ?cX ?cN ?cT ?cK ?cl ?cd ?cu ?_; (case cB => k_asm); (case cF => k_asm); (case cX => k_asm); (case cN => k_asm); (case cT => k_asm); (case cK => first | exact rfl | assumption); (case cl => (repeat' (first | exact sub_nil | assumption | refine sub_both (by k_mem) ?_ | refine sub_cons ?_))); (case cd => ktr_room); (case cu => ktr_units)); (case p1 => assumption); (case p2 => (first | exact (year_any (by assumption) (by assumption) (by assumption) (by assumption) (by assumption) (by assumption) (by assumption) (by assumption) (by assumption) (by assumption) (by assumption) (by assumption) (by assumption) (by assumption) (by assumption) (by assumption) (by assumption) (by omega) (by omega)).1 (by first | exact Or.inl (by assumption) | exact Or.inr (by assumption)) | exact (year_any (by assumption) (by assumption) (by assumption) (by assumption) (by assumption) (by assumption) (by assumption) (by assumption) (by assumption) (by assumption) (by assumption) (by assumption) (by assumption) (by assumption) (by assumption) (by assumption) (by assumption) (by omega) (by omega)).2 (by assumption) (by assumption))); (intro t9 h9 tk9 F9 N9; (try dsimp only); (try k_fold))))
local macro_rules | `(tactic| walk_at "call ref") => `(tactic| (k_here; k_dflt (refine' CallF.use (c_toJ_g _ _ _ _ _ _ _ ?p3 ?p4 ?p5 ?p6 ?p7 ?p8) ?cB ?cF ?cX ?cN ?cT ?cK ?cl ?cd ?cu ?_; (case cB => k_asm); (case cF => k_asm); (case cX => k_asm); (case cN => k_asm); (case cT => k_asm); (case cK => first | exact rfl | assumption); (case cl => (repeat' (first | exact sub_nil | assumption | refine sub_both (by k_mem) ?_ | refine sub_cons ?_))); (case cd => ktr_room); (case cu => ktr_units)); (case p5 => assumption); (case p3 => omega); (case p4 => omega); (case p6 => (first | exact (year_any (by assumption) (by assumption) (by assumption) (by assumption) (by assumption) (by assumption) (by assumption) (by assumption) (by assumption) (by assumption) (by assumption) (by assumption) (by assumption) (by assumption) (by assumption) (by assumption) (by assumption) (by omega) (by omega)).1 (by first | exact Or.inl (by assumption) | exact Or.inr (by assumption)) | exact (year_any (by assumption) (by assumption) (by assumption) (by assumption) (by assumption) (by assumption) (by assumption) (by assumption) (by assumption) (by assumption) (by assumption) (by assumption) (by assumption) (by assumption) (by assumption) (by assumption) (by assumption) (by omega) (by omega)).2 (by assumption) (by assumption))); (case p7 => assumption); (case p8 => assumption); (intro j9 t9 h9 tk9 P9 F9 N9; obtain ⟨k9, e9, ek9, b9, c9⟩ := P9; subst e9; (try dsimp only); (try k_fold))))
local macro_rules | `(tactic| walk_at "call ref") => `(tactic| (k_here; k_dflt (refine' CallV.use (c_toJ_1 _ _ _ _ _ _ ?p5 ?p6 ?p7 ?p8) ?cB ?cF ?cX ?cN ?cT ?cK ?cl ?cd ?cu ?_; (case cB => k_asm); (case cF => k_asm); (case cX => k_asm); (case cN => k_asm); (case cT => k_asm); (case cK => first | exact rfl | assumption); (case cl => (repeat' (first | exact sub_nil | assumption | refine sub_both (by k_mem) ?_ | refine sub_cons ?_))); (case cd => ktr_room); (case cu => ktr_units)); (case p5 => assumption); (case p6 => (first | exact (year_any (by assumption) (by assumption) (by assumption) (by assumption) (by assumption) (by assumption) (by assumption) (by assumption) (by assumption) (by assumption) (by assumption) (by assumption) (by assumption) (by assumption) (by assumption) (by assumption) (by assumption) (by omega) (by omega)).1 (by first | exact Or.inl (by assumption) | exact Or.inr (by assumption)) | exact (year_any (by assumption) (by assumption) (by assumption) (by assumption) (by assumption) (by assumption) (by assumption) (by assumption) (by assumption) (by assumption) (by assumption) (by assumption) (by assumption) (by assumption) (by assumption) (by assumption) (by assumption) (by omega) (by omega)).2 (by assumption) (by assumption))); (case p7 => assumption); (case p8 => assumption); (intro t9 h9 tk9 F9 N9; (try dsimp only); (try k_fold))))

/-- what from_jd tells of a day of the year g -/
def Greg (g : Int) (b : Bool) (lo hi : Int) (y m9 d9 : Int) : Prop :=
  y = g ∧ ∃ n, lo < 1048576 * n + 1048576 ∧ 1048576 * n ≤ hi ∧
    (58 + leapI b ≤ n - 1721425 - jan0 g → 367 * m9 ≤ (n - 1721425 - jan0 g + (2 - leapI b)) * 12 + 373 ∧ (n - 1721425 - jan0 g + (2 - leapI b)) * 12 + 373 < 367 * m9 + 367 ∧ d9 = n - 1721425 - jan0 g - ((367 * m9 - 362) / 12 + adj g m9) + 1)

theorem c_fromJ (prog : Program) (w : World) (x : UInt64) (t : Tok) {lo hi g : Int} (hx : FB x lo hi) (hlo : -(2 ^ 45) < lo) (hhi : hi < 2 ^ 45) (hg1 : -100000 < g) (hg2 : g < 100000)
    (hj1 : 1048576 * (jan0 g + 1721425) ≤ lo - 524288) (hj2 : hi - 524288 < 1048576 * (jan0 (g + 1) + 1721425)) (b : Bool) (hb : LeapIs g b) :
    CallT prog w 8 [] 71 [.float x t] (Greg g b (lo - 524288) (hi - 524288)) := by
  unfold CallT
  intro dp un gd cn cs a ccd cl outer A₀ base h₀ L m news s p loose mean mg mb Q E B F X N T hk hl hd hu hret
  have hy : YearIs g := trivial
  have ho := fb_order hx
  have hn := jan0_next g
  have hn2 : jan0 (g + 1) ≤ jan0 g + 366 := by rw [hn]; split <;> omega
  have hn3 : jan0 g + 365 ≤ jan0 (g + 1) := by rw [hn]; split <;> omega
  have hn4 : b = false → jan0 (g + 1) = jan0 g + 365 := by
    intro q
    rw [hn, show leapB g = b from hb, q]; simp
  clear hn
  cases b
  · have hn5 := hn4 rfl
    clear hn4
    refine wpAny_call ?_
    k_dflt cell_enter
    k_steps
    all_goals (refine' hret _ _ _ _ _ _ _ _ _ ?eP ?eF ?eN; (case eF => k_asm); (case eN => k_asm); (case eP => (
      refine ⟨by (first | exact (year_any (by assumption) (by assumption) (by assumption) (by assumption) (by assumption) (by assumption) (by assumption) (by assumption) (by assumption) (by assumption) (by assumption) (by assumption) (by assumption) (by assumption) (by assumption) (by assumption) (by assumption) (by omega) (by omega)).1 (by first | exact Or.inl (by assumption) | exact Or.inr (by assumption)) | exact (year_any (by assumption) (by assumption) (by assumption) (by assumption) (by assumption) (by assumption) (by assumption) (by assumption) (by assumption) (by assumption) (by assumption) (by assumption) (by assumption) (by assumption) (by assumption) (by assumption) (by assumption) (by omega) (by omega)).2 (by assumption) (by assumption)), _, by assumption, by assumption, fun hq => ?_⟩
      have i1 : (if true = true then (1 : Int) else 0) = 1 := rfl
      have i0 : (if false = true then (1 : Int) else 0) = 0 := rfl
      unfold leapI at hq ⊢
      refine ⟨?_, ?_, ?_⟩ <;> omega)))
  · clear hn4
    refine wpAny_call ?_
    k_dflt cell_enter
    k_steps
    all_goals (refine' hret _ _ _ _ _ _ _ _ _ ?eP ?eF ?eN; (case eF => k_asm); (case eN => k_asm); (case eP => (
      refine ⟨by (first | exact (year_any (by assumption) (by assumption) (by assumption) (by assumption) (by assumption) (by assumption) (by assumption) (by assumption) (by assumption) (by assumption) (by assumption) (by assumption) (by assumption) (by assumption) (by assumption) (by assumption) (by assumption) (by omega) (by omega)).1 (by first | exact Or.inl (by assumption) | exact Or.inr (by assumption)) | exact (year_any (by assumption) (by assumption) (by assumption) (by assumption) (by assumption) (by assumption) (by assumption) (by assumption) (by assumption) (by assumption) (by assumption) (by assumption) (by assumption) (by assumption) (by assumption) (by assumption) (by assumption) (by omega) (by omega)).2 (by assumption) (by assumption)), _, by assumption, by assumption, fun hq => ?_⟩
      have i1 : (if true = true then (1 : Int) else 0) = 1 := rfl
      have i0 : (if false = true then (1 : Int) else 0) = 0 := rfl
      unfold leapI at hq ⊢
      refine ⟨?_, ?_, ?_⟩ <;> omega)))
end

section
open PySem PySem.Flt PySem.W PySem.Spec PySem.Calls PyProof.Rows

local macro_rules | `(tactic| walk_at "compareOp In int ref") => `(tactic| (k_here; k_dflt (refine' topIn_ints ?F ?X ?l ?i ?_; (case F => k_asm); (case X => k_asm); (case l => k_is); (case i => repeat constructor); k_whole; (try simp only [List.any_cons, List.any_nil, Bool.or_false]))))

local macro_rules | `(tactic| walk_at "binaryOp Sub float float") => `(tactic| first
  | (with_plain (refine' w_sub_hh ?hx ?hy ?ha ?hb ?_; (case hx => with_reducible (first | exact rfl | exact epochG_hf | exact epochP_hf | exact half_hf)); (case hy => with_reducible (first | exact rfl | exact epochG_hf | exact epochP_hf | exact half_hf)); (case ha => omega); (case hb => omega); (try dsimp only)))
  | (with_plain (refine' w_sub_ff ?hx ?hy ?hl ?hh ?_; (case hx => first | with_reducible assumption | exact fb_half | exact fb_trop | exact fb_epochP | exact fb_hf (by omega)); (case hy => first | with_reducible assumption | exact fb_half | exact fb_trop | exact fb_epochP | exact fb_hf (by omega)); (case hl => omega); (case hh => omega); (try dsimp only)); intro z9 fz9))
local macro_rules | `(tactic| walk_at "binaryOp Add float float") => `(tactic| first
  | (with_plain (refine' w_add_hh ?hx ?hy ?ha ?hb ?_; (case hx => with_reducible (first | exact rfl | exact epochG_hf | exact epochP_hf | exact half_hf)); (case hy => with_reducible (first | exact rfl | exact epochG_hf | exact epochP_hf | exact half_hf)); (case ha => omega); (case hb => omega); (try dsimp only)))
  | (with_plain (refine' w_add_ff ?hx ?hy ?hl ?hh ?_; (case hx => first | with_reducible assumption | exact fb_half | exact fb_trop | exact fb_epochP | exact fb_hf (by omega)); (case hy => first | with_reducible assumption | exact fb_half | exact fb_trop | exact fb_epochP | exact fb_hf (by omega)); (case hl => omega); (case hh => omega); (try dsimp only)); intro z9 fz9))
local macro_rules | `(tactic| walk_at "binaryOp Sub float int") => `(tactic| first
  | (with_plain (refine' w_sub_hi ?hx ?ha ?hb ?_; (case hx => with_reducible (first | exact rfl | exact epochG_hf | exact epochP_hf | exact half_hf)); (case ha => omega); (case hb => omega); (try dsimp only))))
local macro_rules | `(tactic| walk_at "binaryOp Add float int") => `(tactic| first
  | (with_plain (refine' w_add_hi ?hx ?ha ?hb ?_; (case hx => with_reducible (first | exact rfl | exact epochG_hf | exact epochP_hf | exact half_hf)); (case ha => omega); (case hb => omega); (try dsimp only)))
  | (with_plain (refine' w_add_fi ?hx ?hb ?hl ?hh ?_; (case hx => first | with_reducible assumption | exact fb_trop | exact fb_epochP); (case hb => omega); (case hl => omega); (case hh => omega); (try dsimp only)); intro z9 fz9)
  | (with_plain (refine' w_add_qi ?hb ?ha ?hc ?_; (case hb => omega); (case ha => omega); (case hc => omega); (try dsimp only)); intro z9 q9 fz9 lq9 uq9))
local macro_rules | `(tactic| walk_at "binaryOp Add int float") => `(tactic| first
  | (with_plain (refine' w_add_ih ?hx ?ha ?hb ?_; (case hx => with_reducible (first | exact rfl | exact epochG_hf | exact epochP_hf | exact half_hf)); (case ha => omega); (case hb => omega); (try dsimp only)))
  | (with_plain (refine' w_add_if ?hx ?hb ?hl ?hh ?_; (case hx => first | with_reducible assumption | exact fb_trop | exact fb_epochP); (case hb => omega); (case hl => omega); (case hh => omega); (try dsimp only)); intro z9 fz9))
local macro_rules | `(tactic| walk_at "binaryOp Sub int float") => `(tactic| first
  | (with_plain (refine' w_sub_ih ?hx ?ha ?hb ?_; (case hx => with_reducible (first | exact rfl | exact epochG_hf | exact epochP_hf | exact half_hf)); (case ha => omega); (case hb => omega); (try dsimp only))))
local macro_rules | `(tactic| walk_at "binaryOp Mult float int") => `(tactic| first
  | (with_plain (refine' w_mul_hi ?hx ?ha ?hb ?hb2 ?_; (case hx => with_reducible (first | exact rfl | exact epochG_hf | exact epochP_hf | exact half_hf)); (case ha => omega); (case hb => omega); (case hb2 => omega); (try dsimp only)))
  | (with_plain (refine' w_mul_Ti ?hk ?_; (case hk => omega); (try dsimp only)); intro z9 l9 r9 fz9 b19 b29 b39 b49 b59))
local macro_rules | `(tactic| walk_at "binaryOp Mod float int") => `(tactic| first
  | (with_plain (refine' w_mod_hi ?hx ?ha ?he ?hb ?hb2 ?_; (case hx => with_reducible (first | exact rfl | exact epochG_hf | exact epochP_hf | exact half_hf)); (case ha => omega); (case he => omega); (case hb => omega); (case hb2 => omega); (try dsimp only)); intro q9 r9 e9 l9 u9))
local macro_rules | `(tactic| walk_at "binaryOp Div float int") => `(tactic| first
  | (with_plain (refine' w_div_hi ?hb ?hb2 ?_; (case hb => omega); (case hb2 => omega); (try dsimp only))))
local macro_rules | `(tactic| walk_at "binaryOp Div float float") => `(tactic| first
  | (with_plain (refine' w_div_hT  ?_; (try dsimp only))))
local macro_rules | `(tactic| walk_at "binaryOp Div int int") => `(tactic| first
  | (with_plain (refine' w_div_ii ?hA ?hb ?ha ?_; (case hA => exact rfl); (case hb => omega); (case ha => omega); (try dsimp only))))
local macro_rules | `(tactic| walk_at "call builtin:math.floor") => `(tactic| first
  | (with_plain (refine' w_floor_h ?hA ?ha ?_; (case hA => exact rfl); (case ha => omega); (try dsimp only)); intro n9 l9 u9)
  | (with_plain (refine' w_floor_q ?hA ?ha ?hb ?hb2 ?_; (case hA => exact rfl); (case ha => omega); (case hb => omega); (case hb2 => omega); (try dsimp only)); intro n9 l9 u9)
  | (with_plain (refine' w_floor_ii ?hA ?ha ?hb ?hb2 ?_; (case hA => exact rfl); (case ha => omega); (case hb => omega); (case hb2 => omega); (try dsimp only)); intro n9 l9 u9)
  | (with_plain (refine' w_floor_fb ?hA ?hx ?_; (case hA => exact rfl); (case hx => with_reducible assumption); (try dsimp only)); intro n9 l9 u9))
local macro_rules | `(tactic| walk_at "call builtin:math.ceil") => `(tactic| first
  | (with_plain (refine' w_ceil_q ?hA ?ha ?hb ?hb2 ?_; (case hA => exact rfl); (case ha => omega); (case hb => omega); (case hb2 => omega); (try dsimp only)); intro n9 l9 u9))
local macro_rules | `(tactic| walk_at "call type:int") => `(tactic| first
  | (with_plain (refine' w_int_h ?hA ?ha ?he ?_; (case hA => exact rfl); (case ha => omega); (case he => omega); (try dsimp only)); intro n9 e9))
local macro_rules | `(tactic| walk_at "call builtin:round") => `(tactic| first
  | (with_plain (refine' w_round_T ?hA ?hR ?ha ?hk ?h1 ?h2 ?_; (case hA => exact rfl); (case hR => with_reducible assumption); (case ha => omega); (case hk => omega); (case h1 => omega); (case h2 => omega); (try dsimp only))))
local macro_rules | `(tactic| walk_at "compareOp Lt float int") => `(tactic| first
  | (with_plain (refine' w_lt_hi ?hx ?ha ?_; (case hx => with_reducible (first | exact rfl | exact epochG_hf | exact epochP_hf | exact half_hf)); (case ha => omega); (try dsimp only)))
  | (with_plain (refine' w_lt_fi_t ?hx ?hq ?_; (case hx => assumption); (case hq => omega); (try dsimp only)))
  | (with_plain (refine' w_lt_fi_f ?hx ?hq ?_; (case hx => assumption); (case hq => omega); (try dsimp only))))
local macro_rules | `(tactic| walk_at "compareOp LtE float int") => `(tactic| first
  | (with_plain (refine' w_le_hi ?hx ?ha ?_; (case hx => with_reducible (first | exact rfl | exact epochG_hf | exact epochP_hf | exact half_hf)); (case ha => omega); (try dsimp only))))
local macro_rules | `(tactic| walk_at "compareOp Gt float int") => `(tactic| first
  | (with_plain (refine' w_gt_hi ?hx ?ha ?_; (case hx => with_reducible (first | exact rfl | exact epochG_hf | exact epochP_hf | exact half_hf)); (case ha => omega); (try dsimp only))))
local macro_rules | `(tactic| walk_at "compareOp Gt int float") => `(tactic| first
  | (with_plain (refine' w_gt_if_t ?hx ?hq ?_; (case hx => assumption); (case hq => omega); (try dsimp only)))
  | (with_plain (refine' w_gt_if_f ?hx ?hq ?_; (case hx => assumption); (case hq => omega); (try dsimp only))))
local macro_rules | `(tactic| walk_at "compareOp LtE int float") => `(tactic| first
  | (with_plain (refine' w_le_if_t ?hx ?hq ?_; (case hx => assumption); (case hq => omega); (try dsimp only))))
local macro_rules | `(tactic| walk_at "compareOp NotEq float float") => `(tactic| first
  | (with_plain (refine' w_ne_hh ?hx ?hy ?ha ?hb ?_; (case hx => with_reducible (first | exact rfl | exact epochG_hf | exact epochP_hf | exact half_hf)); (case hy => with_reducible (first | exact rfl | exact epochG_hf | exact epochP_hf | exact half_hf)); (case ha => omega); (case hb => omega); (try dsimp only))))


/-- what is asked of the equinoxes' def that is handed in: near the year Y it tells E, and its years have 365 or 366 days -/
structure Eve (prog : Program) (w : World) (led : List (Addr × Obj)) (e : Addr) (E : Int → Int) (Y st sp : Int) : Prop where
  fn : ∃ oc od fd sl, (e, (⟨oc, od, .func fd, sl⟩ : Obj)) ∈ led
  calls : ∀ (n : Int) (t : Tok), Y - 8 ≤ n → n ≤ Y + 8 → CallV prog w 6 led e [.int n t] (fun t => .int (E n) t)
  at0 : E Y = st - 1
  steps : ∀ n, Y - 8 ≤ n → n < Y + 8 → E n + 365 ≤ E (n + 1) ∧ E (n + 1) ≤ E n + 366
  day0 : st = jan0 Y + 1721504 + leapI (leapB Y) + sp
  sp0 : 0 ≤ sp
  sp2 : sp ≤ 2
  lo : -2000 ≤ Y
  hi : Y ≤ 10000

theorem news_tail {h₀ h : Heap} {L : Addr} {p : Addr × Obj} {news : List (Addr × Obj)} (N : News h₀ L h (p :: news)) : News h₀ L h news := fun q hq => N q (.tail _ hq)
def CandY (_ : Int) : Prop := True
section
variable {prog : Program} {w : World} {led : List (Addr × Obj)} {e : Addr} {E : Int → Int} {Y st sp y n : Int} {t : Tok}
theorem Eve.call0 (V : Eve prog w led e E Y st sp) (hy : CandY y) (q : n = y) (h1 : Y - 8 ≤ y) (h2 : y ≤ Y + 8) : CallV prog w 6 led e [.int n t] (fun t => .int (E y) t) := by
  subst q; exact V.calls n t h1 h2
theorem Eve.call1 (V : Eve prog w led e E Y st sp) (hy : CandY y) (q : n = y + 1) (h1 : Y - 8 ≤ y + 1) (h2 : y + 1 ≤ Y + 8) : CallV prog w 6 led e [.int n t] (fun t => .int (E (y + 1)) t) := by
  subst q; exact V.calls (y + 1) t h1 h2
end
local macro_rules | `(tactic| k_mem) => `(tactic| first | assumption | (refine' List.Mem.tail _ ?_; k_mem))
local macro_rules | `(tactic| walk_at "callWith ref") => `(tactic| (k_here; k_dflt (refine' callWith_F ?k1 ?_; (case k1 => exact FnAt.of (by k_asm) (by k_mem)); k_whole)))
local macro_rules | `(tactic| walk_at "And") => `(tactic| ((with_reducible show FnAt _ _ ∧ _); refine ⟨FnAt.of (by k_asm) (by k_mem), ?_⟩; try dsimp only [List.nil_append, List.cons_append]))
local macro_rules | `(tactic| walk_at "call ref") => `(tactic| (k_here; k_dflt (refine' CallV.use (Eve.call0 ?p0 ?p1 ?p2 ?p3 ?p4) ?cB ?cF ?cX ?cN ?cT ?cK ?cl ?cd ?cu ?_; (case p0 => assumption); (case p1 => assumption); (case cB => k_asm); (case cF => k_asm); (case cX => k_asm); (case cN => k_asm); (case cT => k_asm); (case cK => first | exact rfl | assumption); (case cl => (repeat' (first | exact sub_nil | assumption | refine sub_both (by k_mem) ?_ | refine sub_cons ?_))); (case cd => ktr_room); (case cu => ktr_units)); (case p2 => omega); (case p3 => omega); (case p4 => omega); (intro t9 h9 tk9 F9 N9; (try dsimp only); (try k_fold))))
local macro_rules | `(tactic| walk_at "call ref") => `(tactic| (k_here; k_dflt (refine' CallV.use (Eve.call1 ?p0 ?p1 ?p2 ?p3 ?p4) ?cB ?cF ?cX ?cN ?cT ?cK ?cl ?cd ?cu ?_; (case p0 => assumption); (case p1 => assumption); (case cB => k_asm); (case cF => k_asm); (case cX => k_asm); (case cN => k_asm); (case cT => k_asm); (case cK => first | exact rfl | assumption); (case cl => (repeat' (first | exact sub_nil | assumption | refine sub_both (by k_mem) ?_ | refine sub_cons ?_))); (case cd => ktr_room); (case cu => ktr_units)); (case p2 => omega); (case p3 => omega); (case p4 => omega); (intro t9 h9 tk9 F9 N9; (try dsimp only); (try k_fold))))
local macro_rules | `(tactic| walk_at "call ref") => `(tactic| (k_here; k_dflt (refine' CallT.use (c_fromJ _ _ _ _ ?p0 ?p1 ?p2 ?p3 ?p4 ?p5 ?p6 _ ?p7) ?cB ?cF ?cX ?cN ?cT ?cK ?cl ?cd ?cu ?_; (case cB => k_asm); (case cF => k_asm); (case cX => k_asm); (case cN => k_asm); (case cT => k_asm); (case cK => first | exact rfl | assumption); (case cl => (repeat' (first | exact sub_nil | assumption | refine sub_both (by k_mem) ?_ | refine sub_cons ?_))); (case cd => ktr_room); (case cu => ktr_units)); (case p0 => assumption); (case p7 => exact rfl); (case p1 => omega); (case p2 => omega); (case p5 => assumption); (case p6 => assumption); (case p3 => omega); (case p4 => omega); (intro a9 y9 m9 d9 u9 v9 w9 h9 tk9 P9 F9 N9; obtain ⟨P9, P9'⟩ := P9; subst P9; clear P9'; (try dsimp only); (try k_fold))))

local macro_rules | `(tactic| walk_at "exec While Compare cons nil") => `(tactic| (k_here; k_dflt (refine whl_start 100 ?_)))
local macro_rules | `(tactic| walk_at "exec While UnaryOp cons nil") => `(tactic| (k_here; k_dflt (refine whl_start 100 ?_)))

theorem c_last (prog : Program) (w : World) {led : List (Addr × Obj)} {e : Addr} {E : Int → Int} {Y st sp : Int} (V : Eve prog w led e E Y st sp) (x : UInt64) (t : Tok) {lo hi y g : Int} (hx : FB x lo hi) (hlo : -(2 ^ 45) < lo) (hhi : hi < 2 ^ 45)
    (hy1 : Y - 6 ≤ y) (hy2 : y ≤ Y + 6) (hg : g = y ∨ g = y + 1) (hE1 : VGE x (E y)) (hE2 : VLT x (E (y + 1)))
    (hj1 : 1048576 * (jan0 g + 1721425) ≤ lo - 524288) (hj2 : hi - 524288 < 1048576 * (jan0 (g + 1) + 1721425)) :
    CallV prog w 12 led 87 [.float x t, .ref e] (fun t => .int (E y - 1) t) := by
  unfold CallV
  intro dp un gd cn cs a ccd cl outer A₀ base h₀ L m news s p loose mean mg mb Q E' B F X N T hk hl hd hu hret
  have hcy : CandY y := trivial
  have ho := fb_order hx
  obtain ⟨oc, od, fd, sl, hfn⟩ := V.fn
  have hfn' := hl _ hfn
  have hst := V.steps y (by omega) (by omega)
  have hY1 := V.lo
  have hY2 := V.hi
  rcases hg with hg | hg
  · subst hg
    refine wpAny_call ?_
    k_dflt cell_enter
    k_steps
    all_goals (refine cb_retI (Q := Q) hret ?e1 ?e2 ?e3; (case e2 => k_asm); (case e3 => first | k_asm | exact news_tail (by k_asm)); (case e1 => rfl))
  · subst hg
    refine wpAny_call ?_
    k_dflt cell_enter
    k_steps
    all_goals (refine cb_retI (Q := Q) hret ?e1 ?e2 ?e3; (case e2 => k_asm); (case e3 => first | k_asm | exact news_tail (by k_asm)); (case e1 => rfl))
end

section
open PySem PySem.Flt PySem.W PySem.Spec PySem.Calls PyProof.Rows

local macro_rules | `(tactic| walk_at "compareOp In int ref") => `(tactic| (k_here; k_dflt (refine' topIn_ints ?F ?X ?l ?i ?_; (case F => k_asm); (case X => k_asm); (case l => k_is); (case i => repeat constructor); k_whole; (try simp only [List.any_cons, List.any_nil, Bool.or_false]))))

local macro_rules | `(tactic| walk_at "binaryOp Sub float float") => `(tactic| first
  | (with_plain (refine' w_sub_hh ?hx ?hy ?ha ?hb ?_; (case hx => with_reducible (first | exact rfl | exact epochG_hf | exact epochP_hf | exact half_hf)); (case hy => with_reducible (first | exact rfl | exact epochG_hf | exact epochP_hf | exact half_hf)); (case ha => omega); (case hb => omega); (try dsimp only)))
  | (with_plain (refine' w_sub_ff ?hx ?hy ?hl ?hh ?_; (case hx => first | with_reducible assumption | exact fb_half | exact fb_trop | exact fb_epochP | exact fb_hf (by omega)); (case hy => first | with_reducible assumption | exact fb_half | exact fb_trop | exact fb_epochP | exact fb_hf (by omega)); (case hl => omega); (case hh => omega); (try dsimp only)); intro z9 fz9))
local macro_rules | `(tactic| walk_at "binaryOp Add float float") => `(tactic| first
  | (with_plain (refine' w_add_hh ?hx ?hy ?ha ?hb ?_; (case hx => with_reducible (first | exact rfl | exact epochG_hf | exact epochP_hf | exact half_hf)); (case hy => with_reducible (first | exact rfl | exact epochG_hf | exact epochP_hf | exact half_hf)); (case ha => omega); (case hb => omega); (try dsimp only)))
  | (with_plain (refine' w_add_ff ?hx ?hy ?hl ?hh ?_; (case hx => first | with_reducible assumption | exact fb_half | exact fb_trop | exact fb_epochP | exact fb_hf (by omega)); (case hy => first | with_reducible assumption | exact fb_half | exact fb_trop | exact fb_epochP | exact fb_hf (by omega)); (case hl => omega); (case hh => omega); (try dsimp only)); intro z9 fz9))
local macro_rules | `(tactic| walk_at "binaryOp Sub float int") => `(tactic| first
  | (with_plain (refine' w_sub_hi ?hx ?ha ?hb ?_; (case hx => with_reducible (first | exact rfl | exact epochG_hf | exact epochP_hf | exact half_hf)); (case ha => omega); (case hb => omega); (try dsimp only))))
local macro_rules | `(tactic| walk_at "binaryOp Add float int") => `(tactic| first
  | (with_plain (refine' w_add_hi ?hx ?ha ?hb ?_; (case hx => with_reducible (first | exact rfl | exact epochG_hf | exact epochP_hf | exact half_hf)); (case ha => omega); (case hb => omega); (try dsimp only)))
  | (with_plain (refine' w_add_fi ?hx ?hb ?hl ?hh ?_; (case hx => first | with_reducible assumption | exact fb_trop | exact fb_epochP); (case hb => omega); (case hl => omega); (case hh => omega); (try dsimp only)); intro z9 fz9)
  | (with_plain (refine' w_add_qi ?hb ?ha ?hc ?_; (case hb => omega); (case ha => omega); (case hc => omega); (try dsimp only)); intro z9 q9 fz9 lq9 uq9))
local macro_rules | `(tactic| walk_at "binaryOp Add int float") => `(tactic| first
  | (with_plain (refine' w_add_ih ?hx ?ha ?hb ?_; (case hx => with_reducible (first | exact rfl | exact epochG_hf | exact epochP_hf | exact half_hf)); (case ha => omega); (case hb => omega); (try dsimp only)))
  | (with_plain (refine' w_add_if ?hx ?hb ?hl ?hh ?_; (case hx => first | with_reducible assumption | exact fb_trop | exact fb_epochP); (case hb => omega); (case hl => omega); (case hh => omega); (try dsimp only)); intro z9 fz9))
local macro_rules | `(tactic| walk_at "binaryOp Sub int float") => `(tactic| first
  | (with_plain (refine' w_sub_ih ?hx ?ha ?hb ?_; (case hx => with_reducible (first | exact rfl | exact epochG_hf | exact epochP_hf | exact half_hf)); (case ha => omega); (case hb => omega); (try dsimp only))))
local macro_rules | `(tactic| walk_at "binaryOp Mult float int") => `(tactic| first
  | (with_plain (refine' w_mul_hi ?hx ?ha ?hb ?hb2 ?_; (case hx => with_reducible (first | exact rfl | exact epochG_hf | exact epochP_hf | exact half_hf)); (case ha => omega); (case hb => omega); (case hb2 => omega); (try dsimp only)))
  | (with_plain (refine' w_mul_Ti ?hk ?_; (case hk => omega); (try dsimp only)); intro z9 l9 r9 fz9 b19 b29 b39 b49 b59))
local macro_rules | `(tactic| walk_at "binaryOp Mod float int") => `(tactic| first
  | (with_plain (refine' w_mod_hi ?hx ?ha ?he ?hb ?hb2 ?_; (case hx => with_reducible (first | exact rfl | exact epochG_hf | exact epochP_hf | exact half_hf)); (case ha => omega); (case he => omega); (case hb => omega); (case hb2 => omega); (try dsimp only)); intro q9 r9 e9 l9 u9))
local macro_rules | `(tactic| walk_at "binaryOp Div float int") => `(tactic| first
  | (with_plain (refine' w_div_hi ?hb ?hb2 ?_; (case hb => omega); (case hb2 => omega); (try dsimp only))))
local macro_rules | `(tactic| walk_at "binaryOp Div float float") => `(tactic| first
  | (with_plain (refine' w_div_hT  ?_; (try dsimp only))))
local macro_rules | `(tactic| walk_at "binaryOp Div int int") => `(tactic| first
  | (with_plain (refine' w_div_ii ?hA ?hb ?ha ?_; (case hA => exact rfl); (case hb => omega); (case ha => omega); (try dsimp only))))
local macro_rules | `(tactic| walk_at "call builtin:math.floor") => `(tactic| first
  | (with_plain (refine' w_floor_h ?hA ?ha ?_; (case hA => exact rfl); (case ha => omega); (try dsimp only)); intro n9 l9 u9)
  | (with_plain (refine' w_floor_q ?hA ?ha ?hb ?hb2 ?_; (case hA => exact rfl); (case ha => omega); (case hb => omega); (case hb2 => omega); (try dsimp only)); intro n9 l9 u9)
  | (with_plain (refine' w_floor_ii ?hA ?ha ?hb ?hb2 ?_; (case hA => exact rfl); (case ha => omega); (case hb => omega); (case hb2 => omega); (try dsimp only)); intro n9 l9 u9)
  | (with_plain (refine' w_floor_fb ?hA ?hx ?_; (case hA => exact rfl); (case hx => with_reducible assumption); (try dsimp only)); intro n9 l9 u9))
local macro_rules | `(tactic| walk_at "call builtin:math.ceil") => `(tactic| first
  | (with_plain (refine' w_ceil_q ?hA ?ha ?hb ?hb2 ?_; (case hA => exact rfl); (case ha => omega); (case hb => omega); (case hb2 => omega); (try dsimp only)); intro n9 l9 u9))
local macro_rules | `(tactic| walk_at "call type:int") => `(tactic| first
  | (with_plain (refine' w_int_h ?hA ?ha ?he ?_; (case hA => exact rfl); (case ha => omega); (case he => omega); (try dsimp only)); intro n9 e9))
local macro_rules | `(tactic| walk_at "call builtin:round") => `(tactic| first
  | (with_plain (refine' w_round_T ?hA ?hR ?ha ?hk ?h1 ?h2 ?_; (case hA => exact rfl); (case hR => with_reducible assumption); (case ha => omega); (case hk => omega); (case h1 => omega); (case h2 => omega); (try dsimp only))))
local macro_rules | `(tactic| walk_at "compareOp Lt float int") => `(tactic| first
  | (with_plain (refine' w_lt_hi ?hx ?ha ?_; (case hx => with_reducible (first | exact rfl | exact epochG_hf | exact epochP_hf | exact half_hf)); (case ha => omega); (try dsimp only)))
  | (with_plain (refine' w_lt_fi_t ?hx ?hq ?_; (case hx => assumption); (case hq => omega); (try dsimp only)))
  | (with_plain (refine' w_lt_fi_f ?hx ?hq ?_; (case hx => assumption); (case hq => omega); (try dsimp only))))
local macro_rules | `(tactic| walk_at "compareOp LtE float int") => `(tactic| first
  | (with_plain (refine' w_le_hi ?hx ?ha ?_; (case hx => with_reducible (first | exact rfl | exact epochG_hf | exact epochP_hf | exact half_hf)); (case ha => omega); (try dsimp only))))
local macro_rules | `(tactic| walk_at "compareOp Gt float int") => `(tactic| first
  | (with_plain (refine' w_gt_hi ?hx ?ha ?_; (case hx => with_reducible (first | exact rfl | exact epochG_hf | exact epochP_hf | exact half_hf)); (case ha => omega); (try dsimp only))))
local macro_rules | `(tactic| walk_at "compareOp Gt int float") => `(tactic| first
  | (with_plain (refine' w_gt_if_t ?hx ?hq ?_; (case hx => assumption); (case hq => omega); (try dsimp only)))
  | (with_plain (refine' w_gt_if_f ?hx ?hq ?_; (case hx => assumption); (case hq => omega); (try dsimp only))))
local macro_rules | `(tactic| walk_at "compareOp LtE int float") => `(tactic| first
  | (with_plain (refine' w_le_if_t ?hx ?hq ?_; (case hx => assumption); (case hq => omega); (try dsimp only))))
local macro_rules | `(tactic| walk_at "compareOp NotEq float float") => `(tactic| first
  | (with_plain (refine' w_ne_hh ?hx ?hy ?ha ?hb ?_; (case hx => with_reducible (first | exact rfl | exact epochG_hf | exact epochP_hf | exact half_hf)); (case hy => with_reducible (first | exact rfl | exact epochG_hf | exact epochP_hf | exact half_hf)); (case ha => omega); (case hb => omega); (try dsimp only))))

local macro_rules | `(tactic| k_mem) => `(tactic| first | assumption | (refine' List.Mem.tail _ ?_; k_mem))
local macro_rules | `(tactic| walk_at "callWith ref") => `(tactic| (k_here; k_dflt (refine' callWith_F ?k1 ?_; (case k1 => exact FnAt.of (by k_asm) (by k_mem)); k_whole)))
local macro_rules | `(tactic| walk_at "And") => `(tactic| ((with_reducible show FnAt _ _ ∧ _); refine ⟨FnAt.of (by k_asm) (by k_mem), ?_⟩; try dsimp only [List.nil_append, List.cons_append]))
local macro_rules | `(tactic| walk_at "exec While Compare cons nil") => `(tactic| (k_here; k_dflt (refine whl_start 100 ?_)))
local macro_rules | `(tactic| walk_at "exec While UnaryOp cons nil") => `(tactic| (k_here; k_dflt (refine whl_start 100 ?_)))


section
variable {prog : Program} {w : World} {led : List (Addr × Obj)} {e : Addr} {E : Int → Int} {Y st sp : Int}
theorem Eve.step (V : Eve prog w led e E Y st sp) {n n' : Int} (q : n' = n + 1) (h1 : Y - 8 ≤ n) (h2 : n < Y + 8) : E n + 365 ≤ E n' ∧ E n' ≤ E n + 366 := by
  subst q; exact V.steps n h1 h2
theorem Eve.around (V : Eve prog w led e E Y st sp) {y : Int} (h1 : Y - 4 ≤ y) (h2 : y ≤ Y + 4) : E Y + 365 * (y - Y) - 4 ≤ E y ∧ E y ≤ E Y + 365 * (y - Y) + 4 := by
  have s1 := V.step (n := Y - 4) (n' := Y - 3) (by omega) (by omega) (by omega)
  have s2 := V.step (n := Y - 3) (n' := Y - 2) (by omega) (by omega) (by omega)
  have s3 := V.step (n := Y - 2) (n' := Y - 1) (by omega) (by omega) (by omega)
  have s4 := V.step (n := Y - 1) (n' := Y) (by omega) (by omega) (by omega)
  have s5 := V.step (n := Y) (n' := Y + 1) (by omega) (by omega) (by omega)
  have s6 := V.step (n := Y + 1) (n' := Y + 2) (by omega) (by omega) (by omega)
  have s7 := V.step (n := Y + 2) (n' := Y + 3) (by omega) (by omega) (by omega)
  have s8 := V.step (n := Y + 3) (n' := Y + 4) (by omega) (by omega) (by omega)
  have : y = Y - 4 ∨ y = Y - 3 ∨ y = Y - 2 ∨ y = Y - 1 ∨ y = Y ∨ y = Y + 1 ∨ y = Y + 2 ∨ y = Y + 3 ∨ y = Y + 4 := by omega
  rcases this with rfl | rfl | rfl | rfl | rfl | rfl | rfl | rfl | rfl <;> omega
theorem jan0_around {Y y : Int} (h1 : Y - 6 ≤ y) (h2 : y ≤ Y + 6) : jan0 Y + 365 * (y - Y) - 4 ≤ jan0 y ∧ jan0 y ≤ jan0 Y + 365 * (y - Y) + 4 := by
  unfold jan0
  omega
theorem leapI_bd (b : Bool) : 0 ≤ leapI b ∧ leapI b ≤ 1 := by cases b <;> decide
theorem Eve.jan (V : Eve prog w led e E Y st sp) {y : Int} (h1 : Y - 4 ≤ y) (h2 : y ≤ Y + 4) : jan0 y + 1721490 ≤ E y ∧ E y ≤ jan0 y + 1721520 := by
  have a := V.around h1 h2
  have b := jan0_around (Y := Y) (y := y) (by omega) (by omega)
  have c := leapI_bd (leapB Y)
  have d := V.day0
  have e0 := V.at0
  have f := V.sp0
  have g := V.sp2
  omega
theorem Eve.jan_next (y : Int) : jan0 y + 365 ≤ jan0 (y + 1) ∧ jan0 (y + 1) ≤ jan0 y + 366 := by
  rw [jan0_next]; split <;> omega
theorem jan0_line {y : Int} : 3652425 * (y - 1) - 30000 ≤ 10000 * jan0 y ∧ 10000 * jan0 y ≤ 3652425 * (y - 1) + 30000 := by
  unfold jan0; omega
theorem Eve.number (V : Eve prog w led e E Y st sp) {y : Int} (h1 : Y - 4 ≤ y) (h2 : y ≤ Y + 4) :
    ((y - 622) * 1048576 - 262144) * 6425408712209331 ≤ (2 * (E y - 1) - 3896641) * 9223372036854775808 ∧ (2 * (E y - 1) - 3896641) * 9223372036854775808 ≤ ((y - 622) * 1048576 + 262144) * 6425408712209331 := by
  have a := V.jan h1 h2
  have b := jan0_line (y := y)
  have c := V.lo
  have d := V.hi
  omega

/-- the last equinox before the midnight of a day -/
theorem c_last_hf (V : Eve prog w led e E Y st sp) (c : Int) (t : Tok) {y : Int} (hy1 : Y - 3 ≤ y) (hy2 : y ≤ Y + 3) (hc : c % 2 = 1) (h1 : 2 * E y ≤ c) (h2 : c < 2 * E (y + 1)) :
    CallV prog w 12 led 87 [.float (hf c) t, .ref e] (fun t => .int (E y - 1) t) := by
  have j0 := V.jan (y := y) (by omega) (by omega)
  have j1 := V.jan (y := y + 1) (by omega) (by omega)
  have n0 := Eve.jan_next y
  have n1 := Eve.jan_next (y + 1)
  have s0 := V.step (n := y) rfl (by omega) (by omega)
  have l := jan0_line (y := y)
  have a := V.lo
  have b := V.hi
  have hc2 : c.natAbs < 2 ^ 30 := by omega
  have f := fb_hf (a := c) (by omega)
  by_cases q : (c - 1) / 2 < jan0 (y + 1) + 1721425
  · exact c_last prog w V (hf c) t f (by omega) (by omega) (by omega) (by omega) (.inl rfl) (vge_of f (by omega)) (vlt_of f (by omega)) (by omega) (by omega)
  · exact c_last prog w V (hf c) t f (by omega) (by omega) (by omega) (by omega) (.inr rfl) (vge_of f (by omega)) (vlt_of f (by omega)) (by omega) (by omega)

/-- the last equinox before a moment near the equinox of u -/
theorem c_last_fb (V : Eve prog w led e E Y st sp) (x : UInt64) (t : Tok) {lo hi u y : Int} (hx : FB x lo hi) (hy1 : Y - 2 ≤ u) (hy2 : u ≤ Y + 3) (h1 : (E u - 30) * 1048576 ≤ lo) (h2 : hi < (E u + 30) * 1048576)
    (hy : (y = u ∧ VGE x (E u)) ∨ (y = u - 1 ∧ VLT x (E u))) :
    CallV prog w 12 led 87 [.float x t, .ref e] (fun t => .int (E y - 1) t) := by
  have j0 := V.jan (y := u) (by omega) (by omega)
  have n0 := Eve.jan_next u
  have s0 := V.step (n := u) rfl (by omega) (by omega)
  have s1 := V.step (n := u - 1) (n' := u) (by omega) (by omega) (by omega)
  have l := jan0_line (y := u)
  have a := V.lo
  have b := V.hi
  rcases hy with ⟨rfl, q⟩ | ⟨rfl, q⟩
  · exact c_last prog w V x t hx (by omega) (by omega) (by omega) (by omega) (.inl rfl) q (vlt_of hx (by omega)) (by omega) (by omega)
  · exact c_last prog w V x t hx (by omega) (by omega) (by omega) (by omega) (g := u) (.inr (by omega)) (vge_of hx (by omega)) (by rw [show u - 1 + 1 = u by omega]; exact q) (by omega) (by omega)
end

/-- a call that hands back a new pair of ints -/
def CallP (prog : Program) (w : World) (k : Nat) (led : List (Addr × Obj)) (f : Addr) (vs : List Value) (P : Int → Int → Prop) : Prop :=
  ∀ (dp un : Nat) (gd : Option (List Code)) (cn : Str) (cs : Scope) (a : Addr) (ccd : Value) (cl : List (Str × Addr)) (outer : List Env) (A₀ : Around) (base h₀ : Heap) (L : Addr) (m : Str → Option Value) (news : List (Addr × Obj)) (s : Shared)
    (p : Program) (loose : List Str) (mean : ExcName → Option Value) (mg mb : Str → Option Value) (Q E : Value → Shared → Prop),
    Below A₀ base outer h₀ → Fr h₀ L s.heap m → (hd.heap_39 w.params).In h₀ → News h₀ L s.heap news → Top p loose mean mg mb h₀ → cs.kind = .function → (∀ q ∈ led, q ∈ news) →
    dp + k < recursionLimit → un + 8 * k < cLine →
    (∀ (a : Addr) (x y : Int) (t1 t2 : Tok) (h' : Heap) (tk' : Nat), P x y → Fr h₀ L h' m → News h₀ L h' ((a, tupO [.int x t1, .int y t2]) :: news) → Q (.ref a) { s with heap := h', toks := tk' }) →
    wpAny (model prog w) (ktrTop dp un gd cn cs L a ccd cl outer) (call (.ref f) vs) Q E s
theorem CallP.use {prog : Program} {w : World} {k : Nat} {led : List (Addr × Obj)} {f : Addr} {vs : List Value} {P : Int → Int → Prop} (C : CallP prog w k led f vs P)
    {dp un : Nat} {gd : Option (List Code)} {cn : Str} {cs : Scope} {a : Addr} {ccd : Value} {cl : List (Str × Addr)} {outer : List Env} {A₀ : Around} {base h₀ : Heap} {L : Addr} {m : Str → Option Value} {news : List (Addr × Obj)} {s : Shared}
    {p : Program} {loose : List Str} {mean : ExcName → Option Value} {mg mb : Str → Option Value} {Q E : Value → Shared → Prop}
    (B : Below A₀ base outer h₀) (F : Fr h₀ L s.heap m) (X : (hd.heap_39 w.params).In h₀) (N : News h₀ L s.heap news) (T : Top p loose mean mg mb h₀) (hk : cs.kind = .function) (hl : ∀ q ∈ led, q ∈ news)
    (h1 : dp + k < recursionLimit) (h2 : un + 8 * k < cLine)
    (ret : ∀ (a : Addr) (x y : Int) (t1 t2 : Tok) (h' : Heap) (tk' : Nat), P x y → Fr h₀ L h' m → News h₀ L h' ((a, tupO [.int x t1, .int y t2]) :: news) → Q (.ref a) { s with heap := h', toks := tk' }) :
    wpAny (model prog w) (ktrTop dp un gd cn cs L a ccd cl outer) (call (.ref f) vs) Q E s :=
  C _ _ _ _ _ _ _ _ _ _ _ _ _ _ _ _ _ _ _ _ _ _ _ B F X N T hk hl h1 h2 ret

local macro_rules | `(tactic| walk_at "call ref") => `(tactic| (k_here; k_dflt (refine' CallV.use (c_last_fb ?p0 _ _ ?p1 ?p2 ?p3 ?p4 ?p5 ?p6) ?cB ?cF ?cX ?cN ?cT ?cK ?cl ?cd ?cu ?_; (case p0 => with_reducible assumption); (case p1 => with_reducible assumption); (case p6 => assumption); (case cB => k_asm); (case cF => k_asm); (case cX => k_asm); (case cN => k_asm); (case cT => k_asm); (case cK => first | exact rfl | assumption); (case cl => (repeat' (first | exact sub_nil | assumption | refine sub_both (by k_mem) ?_ | refine sub_cons ?_))); (case cd => ktr_room); (case cu => ktr_units)); (case p2 => assumption); (case p3 => assumption); (case p4 => assumption); (case p5 => assumption); (intro t9 h9 tk9 F9 N9; (try dsimp only); (try k_fold))))

theorem c_pyear (prog : Program) (w : World) {led : List (Addr × Obj)} {e : Addr} {E : Int → Int} {Y st sp : Int} (V : Eve prog w led e E Y st sp) (x : UInt64) (t : Tok) {lo hi u : Int} (hx : FB x lo hi) (hy1 : Y - 2 ≤ u) (hy2 : u ≤ Y + 3) (h1 : (E u - 30) * 1048576 ≤ lo) (h2 : hi < (E u + 30) * 1048576) :
    CallP prog w 14 led 94 [.float x t, .ref e] (fun a b => ∃ y, a = y - 621 ∧ b = E y - 1 ∧ (y = u ∨ (y = u - 1 ∧ lo < E u * 1048576))) := by
  have key : ∀ y, ((y = u ∧ VGE x (E u)) ∨ (y = u - 1 ∧ VLT x (E u))) → (y = u ∨ (y = u - 1 ∧ lo < E u * 1048576)) → CallP prog w 14 led 94 [.float x t, .ref e] (fun a b => ∃ y, a = y - 621 ∧ b = E y - 1 ∧ (y = u ∨ (y = u - 1 ∧ lo < E u * 1048576))) := by
    intro y hy hyu
    unfold CallP
    intro dp un gd cn cs a ccd cl outer A₀ base h₀ L m news s p loose mean mg mb Q E' B F X N T hk hl hd hu hret
    have hR : RoundTo (y - 622) := trivial
    have hnum := V.number (y := y) (by omega) (by omega)
    have hY1 := V.lo
    have hY2 := V.hi
    have hj := V.jan (y := y) (by omega) (by omega)
    have hln := jan0_line (y := y)
    refine wpAny_call ?_
    k_dflt cell_enter
    k_steps
    all_goals (refine' hret _ _ _ _ _ _ _ ?eP ?eF ?eN; (case eF => k_asm); (case eN => k_asm); (case eP => exact ⟨y, by omega, rfl, hyu⟩))
  rcases vlt_or (c := E u) hx with q | q
  · refine key (u - 1) (.inr ⟨rfl, q⟩) (.inr ⟨rfl, ?_⟩)
    exact (lt_scale U_pos).mp (Int.lt_of_le_of_lt hx.2.1 q.2)
  · exact key u (.inl ⟨rfl, q⟩) (.inl rfl)

theorem c_pyA (prog : Program) (w : World) {led : List (Addr × Obj)} {e : Addr} {E : Int → Int} {Y st sp y : Int} (V : Eve prog w led e E Y st sp) (hc : CandY y) (x : UInt64) (t : Tok) {lo hi : Int} (hx : FB x lo hi) (hy1 : Y - 2 ≤ y - 1) (hy2 : y - 1 ≤ Y + 3) (h1 : (E (y - 1) - 30) * 1048576 ≤ lo) (h2 : hi < (E (y - 1) + 30) * 1048576) :
    CallP prog w 14 led 94 [.float x t, .ref e] (fun a b => ∃ z, a = z - 621 ∧ b = E z - 1 ∧ (z = y - 1 ∨ (z = y - 1 - 1 ∧ lo < E (y - 1) * 1048576))) := c_pyear prog w V x t hx hy1 hy2 h1 h2
theorem c_pyB (prog : Program) (w : World) {led : List (Addr × Obj)} {e : Addr} {E : Int → Int} {Y st sp y : Int} (V : Eve prog w led e E Y st sp) (hc : CandY y) (x : UInt64) (t : Tok) {lo hi : Int} (hx : FB x lo hi) (hy1 : Y - 2 ≤ y) (hy2 : y ≤ Y + 3) (h1 : (E y - 30) * 1048576 ≤ lo) (h2 : hi < (E y + 30) * 1048576) (h3 : E y * 1048576 ≤ lo) :
    CallP prog w 14 led 94 [.float x t, .ref e] (fun a b => ∃ z, a = z - 621 ∧ b = E z - 1 ∧ z = y) := by
  have := c_pyear prog w V x t hx hy1 hy2 h1 h2
  unfold CallP at this ⊢
  intro dp un gd cn cs a ccd cl outer A₀ base h₀ L m news s p loose mean mg mb Q E' B F X N T hk hl hd hu hret
  refine this dp un gd cn cs a ccd cl outer A₀ base h₀ L m news s p loose mean mg mb Q E' B F X N T hk hl hd hu fun a x y t1 t2 h' tk' P F' N' => hret a x y t1 t2 h' tk' ?_ F' N'
  obtain ⟨z, e1, e2, h⟩ := P
  refine ⟨z, e1, e2, ?_⟩
  rcases h with h | ⟨_, h⟩
  · exact h
  · omega
local macro_rules | `(tactic| walk_at "WhlIf") => `(tactic| first | (refine WhlIf.yes (decide_eq_true (by omega)) ?_) | (refine WhlIf.no (decide_eq_false (by omega)) ?_))
local macro_rules | `(tactic| walk_at "call ref") => `(tactic| (k_here; k_dflt (refine' CallP.use (c_pyA _ _ ?p0 ?p1 _ _ ?p2 ?p3 ?p4 ?p5 ?p6) ?cB ?cF ?cX ?cN ?cT ?cK ?cl ?cd ?cu ?_; (case p0 => with_reducible assumption); (case p1 => with_reducible assumption); (case p2 => assumption); (case cB => k_asm); (case cF => k_asm); (case cX => k_asm); (case cN => k_asm); (case cT => k_asm); (case cK => first | exact rfl | assumption); (case cl => (repeat' (first | exact sub_nil | assumption | refine sub_both (by k_mem) ?_ | refine sub_cons ?_))); (case cd => ktr_room); (case cu => ktr_units)); (case p3 => omega); (case p4 => omega); (case p5 => omega); (case p6 => omega); (intro a9 y9 m9 u9 v9 h9 tk9 P9 F9 N9; obtain ⟨z9, e9, f9, g9⟩ := P9; subst e9; subst f9; rcases g9 with g9 | ⟨g9, g9'⟩ <;> subst g9 <;> (try (exfalso; omega)) <;> (try dsimp only) <;> (try k_fold))))
local macro_rules | `(tactic| walk_at "call ref") => `(tactic| (k_here; k_dflt (refine' CallP.use (c_pyB _ _ ?p0 ?p1 _ _ ?p2 ?p3 ?p4 ?p5 ?p6 ?p7) ?cB ?cF ?cX ?cN ?cT ?cK ?cl ?cd ?cu ?_; (case p0 => with_reducible assumption); (case p1 => with_reducible assumption); (case p2 => assumption); (case cB => k_asm); (case cF => k_asm); (case cX => k_asm); (case cN => k_asm); (case cT => k_asm); (case cK => first | exact rfl | assumption); (case cl => (repeat' (first | exact sub_nil | assumption | refine sub_both (by k_mem) ?_ | refine sub_cons ?_))); (case cd => ktr_room); (case cu => ktr_units)); (case p3 => omega); (case p4 => omega); (case p5 => omega); (case p6 => omega); (case p7 => omega); (intro a9 y9 m9 u9 v9 h9 tk9 P9 F9 N9; obtain ⟨z9, e9, f9, g9⟩ := P9; subst e9; subst f9; subst g9; (try dsimp only); (try k_fold))))

/-- the days before a month of the year -/
def mOff (m9 : Int) : Int := if m9 ≤ 7 then (m9 - 1) * 31 else (m9 - 1) * 30 + 6
theorem c_toJD (prog : Program) (w : World) {led : List (Addr × Obj)} {e : Addr} {E : Int → Int} {Y st sp : Int} (V : Eve prog w led e E Y st sp) (y py m9 d9 : Int) (t1 t2 t3 : Tok) (hy1 : Y ≤ y) (hy2 : y ≤ Y + 1) (hpy : py = y - 621) (hm1 : 1 ≤ m9) (hm2 : m9 ≤ 12) (hd1 : 1 ≤ d9) (hd2 : d9 ≤ 31) :
    CallF prog w 18 led 101 [.int py t1, .int m9 t2, .int d9 t3, .ref e] (fun j => j = 2 * (E y - 1 + mOff m9 + d9) + 1) := by
  unfold CallF
  intro dp un gd cn cs a ccd cl outer A₀ base h₀ L m news s p loose mean mg mb Q E' B F X N T hk hl hd hu hret
  have hcy : CandY y := trivial
  have hY1 := V.lo
  have hY2 := V.hi
  have hj := V.jan (y := y - 1) (by omega) (by omega)
  have hln := jan0_line (y := y - 1)
  have s1 := V.step (n := y - 1 - 1) (n' := y - 1) (by omega) (by omega) (by omega)
  have s2 := V.step (n := y - 1) (n' := y) (by omega) (by omega) (by omega)
  have s3 := V.step (n := y) (n' := y + 1) (by omega) (by omega) (by omega)
  refine wpAny_call ?_
  k_dflt cell_enter
  k_steps
  all_goals (refine' hret _ _ _ _ ?eP ?eF ?eN; (case eF => k_asm); (case eN => (refine' cb_drop ?n1 ?n2; (case n1 => k_asm); (case n2 => (intro q hq; (repeat (first | exact hq | refine List.Mem.tail _ ?_)))))); (case eP => (unfold mOff; first | (rw [if_pos (by assumption)]) | (rw [if_neg (by assumption)]))))

/-- from_jd: what it tells of the yd-th day of the year that begins by the equinox of y -/
def PersDay (y yd : Int) (a m9 d9 : Int) : Prop :=
  a = y - 621 ∧ ((yd ≤ 186 ∧ 31 * m9 - 31 < yd ∧ yd ≤ 31 * m9 ∧ d9 = yd - (m9 - 1) * 31) ∨ (186 < yd ∧ 30 * m9 - 30 < yd - 6 ∧ yd - 6 ≤ 30 * m9 ∧ d9 = yd - (m9 - 1) * 30 - 6))

theorem c_last_h (prog : Program) (w : World) {led : List (Addr × Obj)} {e : Addr} {E : Int → Int} {Y st sp y : Int} (V : Eve prog w led e E Y st sp) (hc : CandY y) (c : Int) (t : Tok) (hy1 : Y - 3 ≤ y) (hy2 : y ≤ Y + 3) (hc : c % 2 = 1) (h1 : 2 * E y ≤ c) (h2 : c < 2 * E (y + 1)) :
    CallV prog w 12 led 87 [.float (hf c) t, .ref e] (fun t => .int (E y - 1) t) := c_last_hf V c t hy1 hy2 hc h1 h2
local macro_rules | `(tactic| walk_at "call ref") => `(tactic| (k_here; k_dflt (refine' CallV.use (c_last_h _ _ ?p0 ?p1 _ _ ?p2 ?p3 ?p4 ?p5 ?p6) ?cB ?cF ?cX ?cN ?cT ?cK ?cl ?cd ?cu ?_; (case p0 => with_reducible assumption); (case p1 => with_reducible assumption); (case cB => k_asm); (case cF => k_asm); (case cX => k_asm); (case cN => k_asm); (case cT => k_asm); (case cK => first | exact rfl | assumption); (case cl => (repeat' (first | exact sub_nil | assumption | refine sub_both (by k_mem) ?_ | refine sub_cons ?_))); (case cd => ktr_room); (case cu => ktr_units)); (case p2 => omega); (case p3 => omega); (case p4 => omega); (case p5 => omega); (case p6 => omega); (intro t9 h9 tk9 F9 N9; (try dsimp only); (try k_fold))))

theorem c_fromJD (prog : Program) (w : World) {led : List (Addr × Obj)} {e : Addr} {E : Int → Int} {Y st sp : Int} (V : Eve prog w led e E Y st sp) (c : Int) (t : Tok) (n : Int) (hn : c = 2 * n - 1) (hn1 : E Y + 1 ≤ n) (hn2 : n ≤ E (Y + 1)) :
    CallT prog w 14 led 108 [.float (hf c) t, .ref e] (PersDay Y (n - E Y)) := by
  unfold CallT
  intro dp un gd cn cs a ccd cl outer A₀ base h₀ L m news s p loose mean mg mb Q E' B F X N T hk hl hd hu hret
  have hcy : CandY Y := trivial
  have hR : RoundTo (Y - 622) := trivial
  have hnum := V.number (y := Y) (by omega) (by omega)
  have hY1 := V.lo
  have hY2 := V.hi
  have hj := V.jan (y := Y) (by omega) (by omega)
  have hln := jan0_line (y := Y)
  have s3 := V.step (n := Y) (n' := Y + 1) (by omega) (by omega) (by omega)
  subst hn
  refine wpAny_call ?_
  k_dflt cell_enter
  k_steps
  all_goals (refine' hret _ _ _ _ _ _ _ _ _ ?eP ?eF ?eN; (case eF => k_asm); (case eN => k_asm); (case eP => (refine ⟨by omega, ?_⟩; first | (refine Or.inl ⟨?_, ?_, ?_, ?_⟩ <;> omega) | (refine Or.inr ⟨?_, ?_, ?_, ?_⟩ <;> omega))))
end

section
open PySem PySem.Flt PySem.W PySem.Spec PySem.Calls PyProof.Rows

local macro_rules | `(tactic| walk_at "compareOp In int ref") => `(tactic| (k_here; k_dflt (refine' topIn_ints ?F ?X ?l ?i ?_; (case F => k_asm); (case X => k_asm); (case l => k_is); (case i => repeat constructor); k_whole; (try simp only [List.any_cons, List.any_nil, Bool.or_false]))))

local macro_rules | `(tactic| walk_at "binaryOp Sub float float") => `(tactic| first
  | (with_plain (refine' w_sub_hh ?hx ?hy ?ha ?hb ?_; (case hx => with_reducible (first | exact rfl | exact epochG_hf | exact epochP_hf | exact half_hf)); (case hy => with_reducible (first | exact rfl | exact epochG_hf | exact epochP_hf | exact half_hf)); (case ha => omega); (case hb => omega); (try dsimp only)))
  | (with_plain (refine' w_sub_ff ?hx ?hy ?hl ?hh ?_; (case hx => first | with_reducible assumption | exact fb_half | exact fb_trop | exact fb_epochP | exact fb_hf (by omega)); (case hy => first | with_reducible assumption | exact fb_half | exact fb_trop | exact fb_epochP | exact fb_hf (by omega)); (case hl => omega); (case hh => omega); (try dsimp only)); intro z9 fz9))
local macro_rules | `(tactic| walk_at "binaryOp Add float float") => `(tactic| first
  | (with_plain (refine' w_add_hh ?hx ?hy ?ha ?hb ?_; (case hx => with_reducible (first | exact rfl | exact epochG_hf | exact epochP_hf | exact half_hf)); (case hy => with_reducible (first | exact rfl | exact epochG_hf | exact epochP_hf | exact half_hf)); (case ha => omega); (case hb => omega); (try dsimp only)))
  | (with_plain (refine' w_add_ff ?hx ?hy ?hl ?hh ?_; (case hx => first | with_reducible assumption | exact fb_half | exact fb_trop | exact fb_epochP | exact fb_hf (by omega)); (case hy => first | with_reducible assumption | exact fb_half | exact fb_trop | exact fb_epochP | exact fb_hf (by omega)); (case hl => omega); (case hh => omega); (try dsimp only)); intro z9 fz9))
local macro_rules | `(tactic| walk_at "binaryOp Sub float int") => `(tactic| first
  | (with_plain (refine' w_sub_hi ?hx ?ha ?hb ?_; (case hx => with_reducible (first | exact rfl | exact epochG_hf | exact epochP_hf | exact half_hf)); (case ha => omega); (case hb => omega); (try dsimp only))))
local macro_rules | `(tactic| walk_at "binaryOp Add float int") => `(tactic| first
  | (with_plain (refine' w_add_hi ?hx ?ha ?hb ?_; (case hx => with_reducible (first | exact rfl | exact epochG_hf | exact epochP_hf | exact half_hf)); (case ha => omega); (case hb => omega); (try dsimp only)))
  | (with_plain (refine' w_add_fi ?hx ?hb ?hl ?hh ?_; (case hx => first | with_reducible assumption | exact fb_trop | exact fb_epochP); (case hb => omega); (case hl => omega); (case hh => omega); (try dsimp only)); intro z9 fz9)
  | (with_plain (refine' w_add_qi ?hb ?ha ?hc ?_; (case hb => omega); (case ha => omega); (case hc => omega); (try dsimp only)); intro z9 q9 fz9 lq9 uq9))
local macro_rules | `(tactic| walk_at "binaryOp Add int float") => `(tactic| first
  | (with_plain (refine' w_add_ih ?hx ?ha ?hb ?_; (case hx => with_reducible (first | exact rfl | exact epochG_hf | exact epochP_hf | exact half_hf)); (case ha => omega); (case hb => omega); (try dsimp only)))
  | (with_plain (refine' w_add_if ?hx ?hb ?hl ?hh ?_; (case hx => first | with_reducible assumption | exact fb_trop | exact fb_epochP); (case hb => omega); (case hl => omega); (case hh => omega); (try dsimp only)); intro z9 fz9))
local macro_rules | `(tactic| walk_at "binaryOp Sub int float") => `(tactic| first
  | (with_plain (refine' w_sub_ih ?hx ?ha ?hb ?_; (case hx => with_reducible (first | exact rfl | exact epochG_hf | exact epochP_hf | exact half_hf)); (case ha => omega); (case hb => omega); (try dsimp only))))
local macro_rules | `(tactic| walk_at "binaryOp Mult float int") => `(tactic| first
  | (with_plain (refine' w_mul_hi ?hx ?ha ?hb ?hb2 ?_; (case hx => with_reducible (first | exact rfl | exact epochG_hf | exact epochP_hf | exact half_hf)); (case ha => omega); (case hb => omega); (case hb2 => omega); (try dsimp only)))
  | (with_plain (refine' w_mul_Ti ?hk ?_; (case hk => omega); (try dsimp only)); intro z9 l9 r9 fz9 b19 b29 b39 b49 b59))
local macro_rules | `(tactic| walk_at "binaryOp Mod float int") => `(tactic| first
  | (with_plain (refine' w_mod_hi ?hx ?ha ?he ?hb ?hb2 ?_; (case hx => with_reducible (first | exact rfl | exact epochG_hf | exact epochP_hf | exact half_hf)); (case ha => omega); (case he => omega); (case hb => omega); (case hb2 => omega); (try dsimp only)); intro q9 r9 e9 l9 u9))
local macro_rules | `(tactic| walk_at "binaryOp Div float int") => `(tactic| first
  | (with_plain (refine' w_div_hi ?hb ?hb2 ?_; (case hb => omega); (case hb2 => omega); (try dsimp only))))
local macro_rules | `(tactic| walk_at "binaryOp Div float float") => `(tactic| first
  | (with_plain (refine' w_div_hT  ?_; (try dsimp only))))
local macro_rules | `(tactic| walk_at "binaryOp Div int int") => `(tactic| first
  | (with_plain (refine' w_div_ii ?hA ?hb ?ha ?_; (case hA => exact rfl); (case hb => omega); (case ha => omega); (try dsimp only))))
local macro_rules | `(tactic| walk_at "call builtin:math.floor") => `(tactic| first
  | (with_plain (refine' w_floor_h ?hA ?ha ?_; (case hA => exact rfl); (case ha => omega); (try dsimp only)); intro n9 l9 u9)
  | (with_plain (refine' w_floor_q ?hA ?ha ?hb ?hb2 ?_; (case hA => exact rfl); (case ha => omega); (case hb => omega); (case hb2 => omega); (try dsimp only)); intro n9 l9 u9)
  | (with_plain (refine' w_floor_ii ?hA ?ha ?hb ?hb2 ?_; (case hA => exact rfl); (case ha => omega); (case hb => omega); (case hb2 => omega); (try dsimp only)); intro n9 l9 u9)
  | (with_plain (refine' w_floor_fb ?hA ?hx ?_; (case hA => exact rfl); (case hx => with_reducible assumption); (try dsimp only)); intro n9 l9 u9))
local macro_rules | `(tactic| walk_at "call builtin:math.ceil") => `(tactic| first
  | (with_plain (refine' w_ceil_q ?hA ?ha ?hb ?hb2 ?_; (case hA => exact rfl); (case ha => omega); (case hb => omega); (case hb2 => omega); (try dsimp only)); intro n9 l9 u9))
local macro_rules | `(tactic| walk_at "call type:int") => `(tactic| first
  | (with_plain (refine' w_int_h ?hA ?ha ?he ?_; (case hA => exact rfl); (case ha => omega); (case he => omega); (try dsimp only)); intro n9 e9))
local macro_rules | `(tactic| walk_at "call builtin:round") => `(tactic| first
  | (with_plain (refine' w_round_T ?hA ?hR ?ha ?hk ?h1 ?h2 ?_; (case hA => exact rfl); (case hR => with_reducible assumption); (case ha => omega); (case hk => omega); (case h1 => omega); (case h2 => omega); (try dsimp only))))
local macro_rules | `(tactic| walk_at "compareOp Lt float int") => `(tactic| first
  | (with_plain (refine' w_lt_hi ?hx ?ha ?_; (case hx => with_reducible (first | exact rfl | exact epochG_hf | exact epochP_hf | exact half_hf)); (case ha => omega); (try dsimp only)))
  | (with_plain (refine' w_lt_fi_t ?hx ?hq ?_; (case hx => assumption); (case hq => omega); (try dsimp only)))
  | (with_plain (refine' w_lt_fi_f ?hx ?hq ?_; (case hx => assumption); (case hq => omega); (try dsimp only))))
local macro_rules | `(tactic| walk_at "compareOp LtE float int") => `(tactic| first
  | (with_plain (refine' w_le_hi ?hx ?ha ?_; (case hx => with_reducible (first | exact rfl | exact epochG_hf | exact epochP_hf | exact half_hf)); (case ha => omega); (try dsimp only))))
local macro_rules | `(tactic| walk_at "compareOp Gt float int") => `(tactic| first
  | (with_plain (refine' w_gt_hi ?hx ?ha ?_; (case hx => with_reducible (first | exact rfl | exact epochG_hf | exact epochP_hf | exact half_hf)); (case ha => omega); (try dsimp only))))
local macro_rules | `(tactic| walk_at "compareOp Gt int float") => `(tactic| first
  | (with_plain (refine' w_gt_if_t ?hx ?hq ?_; (case hx => assumption); (case hq => omega); (try dsimp only)))
  | (with_plain (refine' w_gt_if_f ?hx ?hq ?_; (case hx => assumption); (case hq => omega); (try dsimp only))))
local macro_rules | `(tactic| walk_at "compareOp LtE int float") => `(tactic| first
  | (with_plain (refine' w_le_if_t ?hx ?hq ?_; (case hx => assumption); (case hq => omega); (try dsimp only))))
local macro_rules | `(tactic| walk_at "compareOp NotEq float float") => `(tactic| first
  | (with_plain (refine' w_ne_hh ?hx ?hy ?ha ?hb ?_; (case hx => with_reducible (first | exact rfl | exact epochG_hf | exact epochP_hf | exact half_hf)); (case hy => with_reducible (first | exact rfl | exact epochG_hf | exact epochP_hf | exact half_hf)); (case ha => omega); (case hb => omega); (try dsimp only))))

local macro_rules | `(tactic| k_mem) => `(tactic| first | assumption | (refine' List.Mem.tail _ ?_; k_mem))
local macro_rules | `(tactic| walk_at "callWith ref") => `(tactic| (k_here; k_dflt (refine' callWith_F ?k1 ?_; (case k1 => exact FnAt.of (by k_asm) (by k_mem)); k_whole)))
local macro_rules | `(tactic| walk_at "And") => `(tactic| ((with_reducible show FnAt _ _ ∧ _); refine ⟨FnAt.of (by k_asm) (by k_mem), ?_⟩; try dsimp only [List.nil_append, List.cons_append]))
local macro_rules | `(tactic| walk_at "exec While Compare cons nil") => `(tactic| (k_here; k_dflt (refine whl_start 100 ?_)))
local macro_rules | `(tactic| walk_at "exec While UnaryOp cons nil") => `(tactic| (k_here; k_dflt (refine whl_start 100 ?_)))


section
variable {prog : Program} {w : World} {led : List (Addr × Obj)} {e : Addr} {E : Int → Int} {Y st sp : Int}
theorem mOff_1 : mOff 1 = 0 := by decide
theorem adj_3 (y : Int) : adj y 3 = leapI (leapB y) - 2 := by
  unfold adj leapI
  rw [if_neg (by decide)]
  split <;> rfl
theorem c_toJDA (V : Eve prog w led e E Y st sp) (hc : CandY Y) (py m9 d9 : Int) (t1 t2 t3 : Tok) (hpy : py = Y - 621) (hm1 : 1 ≤ m9) (hm2 : m9 ≤ 12) (hd1 : 1 ≤ d9) (hd2 : d9 ≤ 31) :
    CallF prog w 18 led 101 [.int py t1, .int m9 t2, .int d9 t3, .ref e] (fun j => j = 2 * (E Y - 1 + mOff m9 + d9) + 1) := c_toJD prog w V Y py m9 d9 t1 t2 t3 (by omega) (by omega) hpy hm1 hm2 hd1 hd2
theorem c_toJDB (V : Eve prog w led e E Y st sp) (hc : CandY Y) (py m9 d9 : Int) (t1 t2 t3 : Tok) (hpy : py = Y + 1 - 621) (hm1 : 1 ≤ m9) (hm2 : m9 ≤ 12) (hd1 : 1 ≤ d9) (hd2 : d9 ≤ 31) :
    CallF prog w 18 led 101 [.int py t1, .int m9 t2, .int d9 t3, .ref e] (fun j => j = 2 * (E (Y + 1) - 1 + mOff m9 + d9) + 1) := c_toJD prog w V (Y + 1) py m9 d9 t1 t2 t3 (by omega) (by omega) hpy hm1 hm2 hd1 hd2
end
local macro_rules | `(tactic| walk_at "call ref") => `(tactic| (k_here; k_dflt (refine' CallF.use (c_toJDA ?p0 ?p1 _ _ _ _ _ _ ?p2 ?p3 ?p4 ?p5 ?p6) ?cB ?cF ?cX ?cN ?cT ?cK ?cl ?cd ?cu ?_; (case p0 => with_reducible assumption); (case p1 => with_reducible assumption); (case cB => k_asm); (case cF => k_asm); (case cX => k_asm); (case cN => k_asm); (case cT => k_asm); (case cK => first | exact rfl | assumption); (case cl => (repeat' (first | exact sub_nil | assumption | refine sub_both (by k_mem) ?_ | refine sub_cons ?_))); (case cd => ktr_room); (case cu => ktr_units)); (case p2 => omega); (case p3 => omega); (case p4 => omega); (case p5 => omega); (case p6 => omega); (intro j9 t9 h9 tk9 P9 F9 N9; subst P9; (try simp only [mOff_1]); (try dsimp only); (try k_fold))))
local macro_rules | `(tactic| walk_at "call ref") => `(tactic| (k_here; k_dflt (refine' CallF.use (c_toJDB ?p0 ?p1 _ _ _ _ _ _ ?p2 ?p3 ?p4 ?p5 ?p6) ?cB ?cF ?cX ?cN ?cT ?cK ?cl ?cd ?cu ?_; (case p0 => with_reducible assumption); (case p1 => with_reducible assumption); (case cB => k_asm); (case cF => k_asm); (case cX => k_asm); (case cN => k_asm); (case cT => k_asm); (case cK => first | exact rfl | assumption); (case cl => (repeat' (first | exact sub_nil | assumption | refine sub_both (by k_mem) ?_ | refine sub_cons ?_))); (case cd => ktr_room); (case cu => ktr_units)); (case p2 => omega); (case p3 => omega); (case p4 => omega); (case p5 => omega); (case p6 => omega); (intro j9 t9 h9 tk9 P9 F9 N9; subst P9; (try simp only [mOff_1]); (try dsimp only); (try k_fold))))

theorem c_leap (prog : Program) (w : World) {led : List (Addr × Obj)} {e : Addr} {E : Int → Int} {Y st sp : Int} (V : Eve prog w led e E Y st sp) (py : Int) (t : Tok) (hpy : py = Y - 621) :
    CallV prog w 20 led 80 [.int py t, .ref e] (fun _ => .bool (decide (365 < E (Y + 1) - E Y))) := by
  unfold CallV
  intro dp un gd cn cs a ccd cl outer A₀ base h₀ L m news s p loose mean mg mb Q E' B F X N T hk hl hd hu hret
  have hcy : CandY Y := trivial
  have hY1 := V.lo
  have hY2 := V.hi
  have hj := V.jan (y := Y) (by omega) (by omega)
  have hln := jan0_line (y := Y)
  have s3 := V.step (n := Y) (n' := Y + 1) (by omega) (by omega) (by omega)
  refine wpAny_call ?_
  k_dflt cell_enter
  k_steps
  all_goals (refine cb_retB (Q := Q) hret ?e1 ?e2 ?e3; (case e2 => k_asm); (case e3 => k_asm); (case e1 => (apply decide_eq_decide.mpr; omega)))
local macro_rules | `(tactic| walk_at "call ref") => `(tactic| (k_here; k_dflt (refine' CallV.use (c_leap _ _ ?p0 _ _ ?p1) ?cB ?cF ?cX ?cN ?cT ?cK ?cl ?cd ?cu ?_; (case p0 => with_reducible assumption); (case cB => k_asm); (case cF => k_asm); (case cX => k_asm); (case cN => k_asm); (case cT => k_asm); (case cK => first | exact rfl | assumption); (case cl => (repeat' (first | exact sub_nil | assumption | refine sub_both (by k_mem) ?_ | refine sub_cons ?_))); (case cd => ktr_room); (case cu => ktr_units)); (case p1 => omega); (intro t9 h9 tk9 F9 N9; (try dsimp only); (try k_fold))))

/-- the length of a month of a year of len days -/
def mLen (m9 len : Int) : Int := if m9 ≤ 6 then 31 else if m9 ≤ 11 then 30 else len - 336
theorem c_mlen (prog : Program) (w : World) {led : List (Addr × Obj)} {e : Addr} {E : Int → Int} {Y st sp : Int} (V : Eve prog w led e E Y st sp) (py m9 : Int) (t1 t2 : Tok) (hpy : py = Y - 621) (hm1 : 1 ≤ m9) (hm2 : m9 ≤ 12) :
    CallV prog w 22 led 129 [.int py t1, .int m9 t2, .ref e] (fun t => .int (mLen m9 (E (Y + 1) - E Y)) t) := by
  unfold CallV
  intro dp un gd cn cs a ccd cl outer A₀ base h₀ L m news s p loose mean mg mb Q E' B F X N T hk hl hd hu hret
  have hcy : CandY Y := trivial
  have s3 := V.step (n := Y) (n' := Y + 1) (by omega) (by omega) (by omega)
  refine wpAny_call ?_
  k_dflt cell_enter
  k_steps
  all_goals (refine cb_retI (Q := Q) hret ?e1 ?e2 ?e3; (case e2 => k_asm); (case e3 => k_asm); (case e1 => ((simp only [Bool.or_eq_true, Bool.or_eq_false_iff, beq_iff_eq, beq_eq_false_iff_ne, decide_eq_true_eq, decide_eq_false_iff_not, ne_eq] at *); unfold mLen; (repeat' split) <;> omega)))

section
variable {prog : Program} {w : World} {led : List (Addr × Obj)} {e : Addr} {E : Int → Int} {Y st sp : Int}
/-- the first day's midnight told by the Gregorian calendar -/
theorem c_fromJ_h (V : Eve prog w led e E Y st sp) (hc : CandY Y) (c : Int) (t : Tok) (q : c = 2 * E Y + 1) : CallT prog w 8 [] 71 [.float (hf c) t] (fun a b d => a = Y ∧ b = 3 ∧ d = 20 + sp) := by
  have hY1 := V.lo
  have hY2 := V.hi
  have hj := V.jan (y := Y) (by omega) (by omega)
  have hln := jan0_line (y := Y)
  have n0 := Eve.jan_next Y
  have d0 := V.day0
  have a0 := V.at0
  have s0 := V.sp0
  have s2 := V.sp2
  have lb := leapI_bd (leapB Y)
  have f := fb_hf (a := c) (by omega)
  have C := c_fromJ prog w (hf c) t f (by omega) (by omega) (g := Y) (by omega) (by omega) (by omega) (by omega) (leapB Y) rfl
  unfold CallT at C ⊢
  intro dp un gd cn cs a ccd cl outer A₀ base h₀ L m news s p loose mean mg mb Q E' B F X N T hk hl hd hu hret
  refine C dp un gd cn cs a ccd cl outer A₀ base h₀ L m news s p loose mean mg mb Q E' B F X N T hk hl hd hu fun a x y z t1 t2 t3 h' tk' P F' N' => hret a x y z t1 t2 t3 h' tk' ?_ F' N'
  obtain ⟨e1, n, b1, b2, h⟩ := P
  have hn : n = E Y := by omega
  subst hn
  have h := h (by omega)
  have hy : y = 3 := by omega
  subst hy
  refine ⟨e1, rfl, ?_⟩
  rw [adj_3] at h
  omega
theorem c_toJ_m (V : Eve prog w led e E Y st sp) (hc : CandY Y) (y m9 d9 : Int) (t1 t2 t3 : Tok) (q1 : y = Y) (q2 : m9 = 3) (q3 : d9 = 20 + sp) :
    CallV prog w 6 [] 64 [.int y t1, .int m9 t2, .int d9 t3] (fun t => .float (hf (2 * (E Y + 1) - 1)) t) := by
  subst q1; subst q2; subst q3
  have hY1 := V.lo
  have hY2 := V.hi
  have s0 := V.sp0
  have s2 := V.sp2
  have C := c_toJ prog w y 3 (20 + sp) t1 t2 t3 (by omega) (by omega) (by omega) (by omega) (by omega) (by omega)
  have e : toJ y 3 (20 + sp) = 2 * (E y + 1) - 1 := by
    unfold toJ
    rw [adj_3]
    have d0 := V.day0
    have a0 := V.at0
    unfold jan0 at d0
    omega
  rw [e] at C
  exact C
theorem c_fromJDA (V : Eve prog w led e E Y st sp) (hc : CandY Y) (c : Int) (t : Tok) (n : Int) (hn : c = 2 * n - 1) (hn1 : E Y + 1 ≤ n) (hn2 : n ≤ E (Y + 1)) :
    CallT prog w 14 led 108 [.float (hf c) t, .ref e] (PersDay Y (n - E Y)) := c_fromJD prog w V c t n hn hn1 hn2
end
local macro_rules | `(tactic| walk_at "call ref") => `(tactic| (k_here; k_dflt (refine' CallT.use (c_fromJ_h ?p0 ?p1 _ _ ?p2) ?cB ?cF ?cX ?cN ?cT ?cK ?cl ?cd ?cu ?_; (case p0 => with_reducible assumption); (case p1 => with_reducible assumption); (case cB => k_asm); (case cF => k_asm); (case cX => k_asm); (case cN => k_asm); (case cT => k_asm); (case cK => first | exact rfl | assumption); (case cl => (repeat' (first | exact sub_nil | assumption | refine sub_both (by k_mem) ?_ | refine sub_cons ?_))); (case cd => ktr_room); (case cu => ktr_units)); (case p2 => omega); (intro a9 y9 m9 d9 u9 v9 w9 h9 tk9 P9 F9 N9; obtain ⟨e9, f9, g9⟩ := P9; subst e9; subst f9; subst g9; (try dsimp only); (try k_fold))))
local macro_rules | `(tactic| walk_at "call ref") => `(tactic| (k_here; k_dflt (refine' CallV.use (c_toJ_m ?p0 ?p1 _ _ _ _ _ _ ?p2 ?p3 ?p4) ?cB ?cF ?cX ?cN ?cT ?cK ?cl ?cd ?cu ?_; (case p0 => with_reducible assumption); (case p1 => with_reducible assumption); (case cB => k_asm); (case cF => k_asm); (case cX => k_asm); (case cN => k_asm); (case cT => k_asm); (case cK => first | exact rfl | assumption); (case cl => (repeat' (first | exact sub_nil | assumption | refine sub_both (by k_mem) ?_ | refine sub_cons ?_))); (case cd => ktr_room); (case cu => ktr_units)); (case p2 => omega); (case p3 => omega); (case p4 => omega); (intro t9 h9 tk9 F9 N9; (try dsimp only); (try k_fold))))
local macro_rules | `(tactic| walk_at "call ref") => `(tactic| (k_here; k_dflt (refine' CallT.use (c_fromJDA ?p0 ?p1 _ _ _ ?p2 ?p3 ?p4) ?cB ?cF ?cX ?cN ?cT ?cK ?cl ?cd ?cu ?_; (case p0 => with_reducible assumption); (case p1 => with_reducible assumption); (case p2 => exact rfl); (case cB => k_asm); (case cF => k_asm); (case cX => k_asm); (case cN => k_asm); (case cT => k_asm); (case cK => first | exact rfl | assumption); (case cl => (repeat' (first | exact sub_nil | assumption | refine sub_both (by k_mem) ?_ | refine sub_cons ?_))); (case cd => ktr_room); (case cu => ktr_units)); (case p3 => omega); (case p4 => omega); (intro a9 y9 m9 d9 u9 v9 w9 h9 tk9 P9 F9 N9; obtain ⟨e9, g9⟩ := P9; subst e9; (try dsimp only); (try k_fold))))

theorem c_toG (prog : Program) (w : World) {led : List (Addr × Obj)} {e : Addr} {E : Int → Int} {Y st sp : Int} (V : Eve prog w led e E Y st sp) (py m9 d9 : Int) (t1 t2 t3 : Tok) (q1 : py = Y - 621) (q2 : m9 = 1) (q3 : d9 = 1) :
    CallT prog w 22 led 122 [.int py t1, .int m9 t2, .int d9 t3, .ref e] (fun a b d => a = Y ∧ b = 3 ∧ d = 20 + sp) := by
  subst q2; subst q3
  unfold CallT
  intro dp un gd cn cs a ccd cl outer A₀ base h₀ L m news s p loose mean mg mb Q E' B F X N T hk hl hd hu hret
  have hcy : CandY Y := trivial
  refine wpAny_call ?_
  k_dflt cell_enter
  k_steps
  all_goals (refine' hret _ _ _ _ _ _ _ _ _ ?eP ?eF ?eN; (case eF => k_asm); (case eN => k_asm); (case eP => exact ⟨rfl, rfl, rfl⟩))

theorem c_fromG (prog : Program) (w : World) {led : List (Addr × Obj)} {e : Addr} {E : Int → Int} {Y st sp : Int} (V : Eve prog w led e E Y st sp) (y m9 d9 : Int) (t1 t2 t3 : Tok) (q1 : y = Y) (q2 : m9 = 3) (q3 : d9 = 20 + sp) :
    CallT prog w 22 led 115 [.int y t1, .int m9 t2, .int d9 t3, .ref e] (fun a b d => a = Y - 621 ∧ b = 1 ∧ d = 1) := by
  unfold CallT
  intro dp un gd cn cs a ccd cl outer A₀ base h₀ L m news s p loose mean mg mb Q E' B F X N T hk hl hd hu hret
  have hcy : CandY Y := trivial
  have s3 := V.step (n := Y) (n' := Y + 1) (by omega) (by omega) (by omega)
  refine wpAny_call ?_
  k_dflt cell_enter
  k_steps
  all_goals (refine' hret _ _ _ _ _ _ _ _ _ ?eP ?eF ?eN; (case eF => k_asm); (case eN => k_asm); (case eP => exact ⟨by omega, by omega, by omega⟩))

/-- the number of the first of March -/
theorem march_eq (y : Int) : 2451605 + 146097 * ((y - 2000) / 400) + 365 * ((y - 2000) % 400) + (y - 2000) % 400 / 4 - (y - 2000) % 400 / 100 = jan0 y + 1721485 + leapI (leapB y) := by
  have hy : y = 2000 + 400 * ((y - 2000) / 400) + (y - 2000) % 400 := by omega
  have h0 : 0 ≤ (y - 2000) % 400 := by omega
  have h1 : (y - 2000) % 400 < 400 := by omega
  generalize (y - 2000) / 400 = q at *
  generalize (y - 2000) % 400 = r at *
  subst hy
  have hl : leapI (leapB (2000 + 400 * q + r)) = if (r % 4 = 0 ∧ (r % 100 ≠ 0 ∨ r = 0)) then 1 else 0 := by
    unfold leapI leapB
    simp only [Bool.and_eq_true, Bool.or_eq_true, decide_eq_true_eq]
    by_cases h : r % 4 = 0 ∧ (r % 100 ≠ 0 ∨ r = 0)
    · rw [if_pos h, if_pos (by omega)]
    · rw [if_neg h, if_neg (by omega)]
  rw [hl]
  unfold jan0
  have e1 : (2000 + 400 * q + r - 1) / 4 = 500 + 100 * q + (r - 1) / 4 := by omega
  have e2 : (2000 + 400 * q + r - 1) / 100 = 20 + 4 * q + (r - 1) / 100 := by omega
  have e3 : (2000 + 400 * q + r - 1) / 400 = 5 + q + (r - 1) / 400 := by omega
  rw [e1, e2, e3]
  by_cases h : r % 4 = 0 ∧ (r % 100 ≠ 0 ∨ r = 0)
  · rw [if_pos h]
    obtain ⟨h4, h5⟩ := h
    rcases h5 with h5 | h5
    · have : (r - 1) / 4 = r / 4 - 1 := by omega
      have : (r - 1) / 100 = r / 100 := by omega
      have : (r - 1) / 400 = 0 := by omega
      omega
    · subst h5; omega
  · rw [if_neg h]
    by_cases h4 : r % 4 = 0
    · have : (r - 1) / 4 = r / 4 - 1 := by omega
      have : (r - 1) / 100 = r / 100 - 1 := by omega
      have : (r - 1) / 400 = 0 := by omega
      omega
    · have : (r - 1) / 4 = r / 4 := by omega
      have : (r - 1) / 100 = r / 100 := by omega
      have : (r - 1) / 400 = 0 := by omega
      omega

theorem c_march (prog : Program) (w : World) (y : Int) (t : Tok) (h1 : -100000 < y) (h2 : y < 100000) : CallV prog w 4 [] 136 [.int y t] (fun t => .int (jan0 y + 1721485 + leapI (leapB y)) t) := by
  unfold CallV
  intro dp un gd cn cs a ccd cl outer A₀ base h₀ L m news s p loose mean mg mb Q E' B F X N T hk hl hd hu hret
  refine wpAny_call ?_
  k_dflt cell_enter
  k_steps
  all_goals (refine cb_retI (Q := Q) hret ?e1 ?e2 ?e3; (case e2 => k_asm); (case e3 => first | k_asm | exact news_tail (by k_asm)); (case e1 => (rw [← march_eq]; (simp only [Int.fmod_eq_emod_of_nonneg _ (show (0 : Int) ≤ 400 by decide), Int.fdiv_eq_ediv_of_nonneg _ (show (0 : Int) ≤ 400 by decide), Int.fdiv_eq_ediv_of_nonneg _ (show (0 : Int) ≤ 4 by decide), Int.fdiv_eq_ediv_of_nonneg _ (show (0 : Int) ≤ 100 by decide)]))))
end

section
open PySem PySem.Flt PySem.W PySem.Spec PySem.Calls PyProof.Rows
/-- the first days' def of the law, near the year Y -/
def firstF (Y st : Int) (odd : List Int) (n : Int) : Int := if Y ≤ n then st + 365 * (n - Y) + (odd.take (n - Y).toNat).sum else st + 365 * (n - Y) - ((odd.drop 8).take (Y - n).toNat).sum
abbrev oddL (l : List Int) : List Int := List.map (fun k' => k'.fmod 2) l ++ [0, 0, 0, 1, 0, 0, 0, 1, 0, 0, 0, 1, 0, 0, 0, 1]
theorem oddL_bits (l : List Int) : ∀ x ∈ oddL l, x = 0 ∨ x = 1 := by
  intro x hx
  rcases List.mem_append.mp hx with h | h
  · obtain ⟨k, _, rfl⟩ := List.mem_map.mp h
    rw [Int.fmod_eq_emod_of_nonneg _ (by decide)]
    omega
  · have q : ∀ x ∈ ([0, 0, 0, 1, 0, 0, 0, 1, 0, 0, 0, 1, 0, 0, 0, 1] : List Int), x = 0 ∨ x = 1 := by decide
    exact q x h
theorem oddL_len (l : List Int) : 16 ≤ (oddL l).length := by simp
theorem take_step {xs : List Int} (hx : ∀ x ∈ xs, x = 0 ∨ x = 1) : ∀ k, (xs.take k).sum ≤ (xs.take (k + 1)).sum ∧ (xs.take (k + 1)).sum ≤ (xs.take k).sum + 1 := by
  induction xs with
  | nil => intro k; simp
  | cons a r ih =>
    intro k
    have ha := hx a (.head _)
    have ih := ih fun x h => hx x (.tail _ h)
    cases k with
    | zero => simp; omega
    | succ k =>
      have := ih k
      simp only [List.take_succ_cons, List.sum_cons]
      omega
theorem firstF_step {Y st : Int} {odd : List Int} (hx : ∀ x ∈ odd, x = 0 ∨ x = 1) (n : Int) : firstF Y st odd n + 365 ≤ firstF Y st odd (n + 1) ∧ firstF Y st odd (n + 1) ≤ firstF Y st odd n + 366 := by
  unfold firstF
  rcases Int.lt_trichotomy (n + 1) Y with h | h | h
  · rw [if_neg (by omega), if_neg (by omega)]
    have e : (Y - n).toNat = (Y - (n + 1)).toNat + 1 := by omega
    rw [e]
    have := take_step (xs := odd.drop 8) (fun x q => hx x (List.mem_of_mem_drop q)) (Y - (n + 1)).toNat
    omega
  · rw [if_neg (by omega), if_pos (by omega)]
    have e : (Y - n).toNat = 0 + 1 := by omega
    have e2 : (n + 1 - Y).toNat = 0 := by omega
    rw [e, e2]
    have := take_step (xs := odd.drop 8) (fun x q => hx x (List.mem_of_mem_drop q)) 0
    simp only [List.take_zero, List.sum_nil] at this ⊢
    omega
  · rw [if_pos (by omega), if_pos (by omega)]
    have e : (n + 1 - Y).toNat = (n - Y).toNat + 1 := by omega
    rw [e]
    have := take_step (xs := odd) hx (n - Y).toNat
    omega

structure FirstF (prog : Program) (w : World) (news : List (Addr × Obj)) (f : Addr) (Y st : Int) (odd : List Int) : Prop where
  calls : ∀ (n : Int) (t : Tok), Y - 8 ≤ n → n ≤ Y + 8 → CallV prog w 4 news f [.int n t] (fun t => .int (firstF Y st odd n) t)
structure FirstOK (prog : Program) (w : World) (news : List (Addr × Obj)) (f : Addr) (E : Int → Int) (Y : Int) : Prop where
  calls : ∀ (n : Int) (t : Tok), Y - 8 ≤ n → n ≤ Y + 8 → CallV prog w 4 news f [.int n t] (fun t => .int (E n + 1) t)
theorem FirstOK.at1 {prog : Program} {w : World} {news : List (Addr × Obj)} {f : Addr} {E : Int → Int} {Y n : Int} {t : Tok} (h : FirstOK prog w news f E Y) (q : n = Y + 1) : CallV prog w 4 news f [.int n t] (fun t => .int (E (Y + 1) + 1) t) := by
  subst q; exact h.calls _ _ (by omega) (by omega)

def Later (P : Prop) : Prop := P
theorem Later.out {P : Prop} (h : Later P) : P := h
theorem law_mid {A : Around} {tr : Sem Value} {Q EE : Value → Shared → Prop} {sh : Shared} {prog : Program} {w : World} {h₀ h : Heap} {L : Addr} {news : List (Addr × Obj)} {f e : Addr} {Y sp : Int} {l : List Int} {vs : List Value} {oS : Obj} {tS : Tok}
    {q1 q2 : Str} {p1 p2 : Arguments} {b1 b2 : List Stmt} {s1 s2 : Scope} {c1 c2 : List (Str × Addr)} {d1 d2 m1 m2 v1 v2 : Value} {k1 k2 : Addr}
    (N : News h₀ L h news)
    (hf : (f, fnMade (Str.ofString "first") q1 p1 b1 s1 c1 d1 m1 k1 v1) ∈ news)
    (he : (e, fnMade (Str.ofString "eve") q2 p2 b2 s2 c2 d2 m2 k2 v2) ∈ news)
    (hS : oS.data = .cell (some (.int (jan0 Y + 1721485 + leapI (leapB Y) + 19 + sp) tS)))
    (hO : IntsAre vs (List.map (fun k' => k'.fmod 2) l ++ [0, 0, 0, 1, 0, 0, 0, 1, 0, 0, 0, 1, 0, 0, 0, 1]))
    (hY1 : -2000 ≤ Y) (hY2 : Y ≤ 10000) (hs1 : 0 ≤ sp) (hs2 : sp ≤ 2)
    (H1 : Later (∀ (n : Int) (t : Tok), Y - 8 ≤ n → n ≤ Y + 8 → CallV prog w 4 news f [.int n t] (fun t => .int (firstF Y (jan0 Y + 1721485 + leapI (leapB Y) + 19 + sp) (oddL l) n) t)))
    (H2 : Later (FirstF prog w news f Y (jan0 Y + 1721485 + leapI (leapB Y) + 19 + sp) (oddL l) →
      ∀ (n : Int) (t : Tok), Y - 8 ≤ n → n ≤ Y + 8 → CallV prog w 6 news e [.int n t] (fun t => .int (firstF Y (jan0 Y + 1721485 + leapI (leapB Y) + 19 + sp) (oddL l) n - 1) t)))
    (K : Later (∀ (E : Int → Int) (st : Int), st = jan0 Y + 1721485 + leapI (leapB Y) + 19 + sp → Eve prog w news e E Y st sp → FirstOK prog w news f E Y → wpAny (model prog w) A tr Q EE sh)) : wpAny (model prog w) A tr Q EE sh := by
  refine K.out (fun n => firstF Y (jan0 Y + 1721485 + leapI (leapB Y) + 19 + sp) (oddL l) n - 1) _ rfl ⟨⟨_, _, _, _, he⟩, fun n t a b => H2.out ⟨H1.out⟩ n t a b, ?_, fun n _ _ => ?_, ?_, hs1, hs2, hY1, hY2⟩ ⟨fun n t a b => ?_⟩
  · show firstF _ _ _ Y - 1 = _
    unfold firstF
    rw [if_pos (Int.le_refl _)]
    simp
  · have := firstF_step (Y := Y) (st := jan0 Y + 1721485 + leapI (leapB Y) + 19 + sp) (oddL_bits l) n
    show firstF _ _ _ n - 1 + 365 ≤ firstF _ _ _ (n + 1) - 1 ∧ firstF _ _ _ (n + 1) - 1 ≤ firstF _ _ _ n - 1 + 366
    omega
  · omega
  · have := H1.out n t a b
    show CallV prog w 4 news f [.int n t] (fun t => .int (firstF _ _ _ n - 1 + 1) t)
    rw [Int.sub_add_cancel]
    exact this

theorem hl_split {p : Addr × Obj} {led news : List (Addr × Obj)} (h : ∀ q ∈ p :: led, q ∈ news) : p ∈ news ∧ ∀ q ∈ led, q ∈ news := ⟨h p (.head _), fun q hq => h q (.tail _ hq)⟩
theorem first_pos {Y st n : Int} {odd : List Int} (h : Y ≤ n) (h2 : n ≤ Y + 8) : st + 365 * (n - Y) + (List.take (if 8 < n - Y then 8 else n - Y).toNat odd).sum + (if n - Y - 8 > 0 then n - Y - 8 else 0).fdiv 4 = firstF Y st odd n := by
  unfold firstF
  rw [if_pos h, if_neg (by omega), if_neg (by omega)]
  simp
theorem first_neg {Y st n : Int} {odd : List Int} (h : ¬ Y ≤ n) (h2 : Y - 8 ≤ n) (hl : 16 ≤ odd.length) : st + 365 * (n - Y) - (List.take (min (8 + if 8 < -(n - Y) then 8 else -(n - Y)).toNat odd.length - 8) (List.drop 8 odd)).sum - (if -(n - Y) - 8 > 0 then -(n - Y) - 8 else 0).fdiv 4 = firstF Y st odd n := by
  unfold firstF
  rw [if_neg h, if_neg (by omega), if_neg (by omega)]
  have e : min (8 + -(n - Y)).toNat odd.length - 8 = (Y - n).toNat := by omega
  rw [e]
  simp

theorem candOf {prog : Program} {w : World} {led : List (Addr × Obj)} {e : Addr} {E : Int → Int} {Y st sp : Int} (V : Eve prog w led e E Y st sp) : CandY Y := trivial
theorem Eve.facts {prog : Program} {w : World} {led : List (Addr × Obj)} {e : Addr} {E : Int → Int} {Y st sp : Int} (V : Eve prog w led e E Y st sp) :
    E Y = st - 1 ∧ E Y + 365 ≤ E (Y + 1) ∧ E (Y + 1) ≤ E Y + 366 ∧ -2000000 ≤ st ∧ st ≤ 20000000 := by
  have a := V.at0
  have b := V.step (n := Y) rfl (by omega) (by omega)
  have c := V.jan (y := Y) (by omega) (by omega)
  have d := jan0_line (y := Y)
  have e := V.lo
  have f := V.hi
  omega
/-- the while of the law: what holds of month and day -/
def MD (place len month day : Int) : Prop := 1 ≤ month ∧ month ≤ 12 ∧ 1 ≤ day ∧ day + mOff month = place + 1 ∧ place < len ∧ 365 ≤ len ∧ len ≤ 366
theorem MD.start {place len : Int} (h0 : 0 ≤ place) (h1 : place < len) (h2 : 365 ≤ len) (h3 : len ≤ 366) : MD place len 1 (place + 1) := by
  refine ⟨by decide, by decide, by omega, ?_, h1, h2, h3⟩
  have : mOff 1 = 0 := by decide
  omega

section
variable {prog : Program} {w : World} {A : Around} {E : Value → Shared → Prop} {s : Shared} {Q : Value → Shared → Prop} {h₀ : Heap} {L l : Addr} {news : List (Addr × Obj)} {len month : Int} {u t1 t2 t3 t4 t5 t6 t7 t8 t9 t10 t11 t12 : Tok}
theorem w_len_item {value slice : Expr} (N : News h₀ L s.heap news) (hm : (l, W.listOf #[.int 31 t1, .int 31 t2, .int 31 t3, .int 31 t4, .int 31 t5, .int 31 t6, .int 30 t7, .int 30 t8, .int 30 t9, .int 30 t10, .int 30 t11, .int (len - 336) t12] 0) ∈ news) (h0 : 1 ≤ month) (h1 : month ≤ 12) (h : ∀ t, Q (.int (mLen month len) t) s)
    (hs : subscripted slice false (.ref l) (.int (month - 1) u) = operate [.ref l, .int (month - 1) u] (getItem (.ref l) (.int (month - 1) u)) := by with_unfolding_all rfl) :
    wpAny (model prog w) A (subscriptTail value slice (.ref l) (.int (month - 1) u)) Q E s := by
  have hL : s.heap.IsList l #[.int 31 t1, .int 31 t2, .int 31 t3, .int 31 t4, .int 31 t5, .int 31 t6, .int 30 t7, .int 30 t8, .int 30 t9, .int 30 t10, .int 30 t11, .int (len - 336) t12] := ⟨_, (N _ hm).1, rfl, 0, rfl⟩
  have key : ∃ t, #[Value.int 31 t1, Value.int 31 t2, Value.int 31 t3, Value.int 31 t4, Value.int 31 t5, Value.int 31 t6, Value.int 30 t7, Value.int 30 t8, Value.int 30 t9, Value.int 30 t10, Value.int 30 t11, Value.int (len - 336) t12][(month - 1).toNat]? = some (.int (mLen month len) t) := by
    have : month = 1 ∨ month = 2 ∨ month = 3 ∨ month = 4 ∨ month = 5 ∨ month = 6 ∨ month = 7 ∨ month = 8 ∨ month = 9 ∨ month = 10 ∨ month = 11 ∨ month = 12 := by omega
    rcases this with rfl | rfl | rfl | rfl | rfl | rfl | rfl | rfl | rfl | rfl | rfl | rfl <;> exact ⟨_, rfl⟩
  obtain ⟨t, hx⟩ := key
  exact tail_any hL.typeIs slot_list_getitem.lookup (wpAny_getItem_list hL (by omega) (by omega) hx (h t)) hs
end
theorem MD.turn {place len month day : Int} (h : MD place len month day) (q : mLen month len < day) : MD place len (month + 1) (day - mLen month len) := by
  obtain ⟨a, b, c, d, e, f, g⟩ := h
  unfold mLen at q ⊢
  unfold MD mOff at *
  split at q <;> split at d <;> (try split at q) <;> (refine ⟨by omega, by omega, by omega, ?_, e, f, g⟩) <;> (split <;> omega)
theorem MD.small {place len month day : Int} (h : MD place len month day) : (13 - (month + 1)).toNat < (13 - month).toNat := by
  obtain ⟨a, b, _⟩ := h
  omega
theorem MD.lo {place len month day : Int} (h : MD place len month day) : 1 ≤ month := h.1
theorem MD.hi {place len month day : Int} (h : MD place len month day) : month ≤ 12 := h.2.1

section
variable {prog : Program} {w : World} {led : List (Addr × Obj)} {e : Addr} {E : Int → Int} {Y st sp : Int}
theorem mOff_nn {m9 : Int} (h : 1 ≤ m9) : 0 ≤ mOff m9 := by unfold mOff; split <;> omega
/-- from_jd of the place-th day is the month and the day that the law reckons -/
theorem c_fromJDm (V : Eve prog w led e E Y st sp) (hc : CandY Y) {place len M D : Int} (hMD : MD place len M D) (c : Int) (t : Tok) (ht : ¬ mLen M len < D) (hlen : len = E (Y + 1) - E Y) (hq : c = 2 * (st + place) - 1) :
    CallT prog w 14 led 108 [.float (hf c) t, .ref e] (fun a b d => a = Y - 621 ∧ b = M ∧ d = D) := by
  have a0 := V.at0
  have nn := mOff_nn hMD.1
  have hMD' := hMD
  obtain ⟨a, b, cc, d, ee, f, g⟩ := hMD
  have C := c_fromJD prog w V c t (st + place) hq (by omega) (by omega)
  unfold CallT at C ⊢
  intro dp un gd cn cs a9 ccd cl outer A₀ base h₀ L m news s p loose mean mg mb Q E' B F X N T hk hl hd hu hret
  refine C dp un gd cn cs a9 ccd cl outer A₀ base h₀ L m news s p loose mean mg mb Q E' B F X N T hk hl hd hu fun a9 x y z t1 t2 t3 h' tk' P F' N' => hret a9 x y z t1 t2 t3 h' tk' ?_ F' N'
  obtain ⟨e1, P⟩ := P
  refine ⟨e1, ?_⟩
  unfold mLen at ht
  unfold mOff at d
  rcases P with ⟨p1, p2, p3, p4⟩ | ⟨p1, p2, p3, p4⟩
  · split at d
    · by_cases q : M = 7
      · subst q; rw [if_neg (by decide), if_pos (by decide)] at ht; omega
      · have : y = M := by rw [if_pos (by omega)] at ht; omega
        subst this; exact ⟨rfl, by omega⟩
    · omega
  · split at d
    · by_cases q : M = 7
      · have : y = M := by omega
        subst this; exact ⟨rfl, by omega⟩
      · rw [if_pos (by omega)] at ht; omega
    · have : y = M := by
        rw [if_neg (by omega)] at ht
        split at ht <;> omega
      subst this; exact ⟨rfl, by omega⟩
theorem c_toJDm (V : Eve prog w led e E Y st sp) (hc : CandY Y) {place len M D : Int} (hMD : MD place len M D) (py : Int) (t1 t2 t3 : Tok) (ht : ¬ mLen M len < D) (hpy : py = Y - 621) :
    CallV prog w 18 led 101 [.int py t1, .int M t2, .int D t3, .ref e] (fun t => .float (hf (2 * (E Y + place) + 1)) t) := by
  obtain ⟨a, b, cc, d, ee, f, g⟩ := hMD
  have hD : D ≤ 31 := by
    unfold mLen at ht
    split at ht
    · omega
    · split at ht <;> omega
  have C := c_toJD prog w V Y py M D t1 t2 t3 (by omega) (by omega) hpy a b cc hD
  have ej : 2 * (E Y - 1 + mOff M + D) + 1 = 2 * (E Y + place) + 1 := by omega
  unfold CallF at C
  unfold CallV
  intro dp un gd cn cs a9 ccd cl outer A₀ base h₀ L m news s p loose mean mg mb Q E' B F X N T hk hl hd hu hret
  refine C dp un gd cn cs a9 ccd cl outer A₀ base h₀ L m news s p loose mean mg mb Q E' B F X N T hk hl hd hu fun j t h' tk' P F' N' => ?_
  rw [P, ej]
  exact hret t h' tk' F' N'
end
theorem w_ne_same {prog : Program} {w : World} {A : Around} {E : Value → Shared → Prop} {s : Shared} {Q : Value → Shared → Prop} {x y : UInt64} {a b : Int} {t u : Tok} (hx : x = hf a) (hy : y = hf b) (ha : a.natAbs < 2 ^ 52) (e : a = b) (h : Q (.bool false) s) : wpAny (model prog w) A (compareOp .NotEq (.float x t) (.float y u)) Q E s := by
  subst e
  refine w_ne_hh hx hy ha ha ?_
  simpa using h
theorem w_ne_bb {prog : Program} {w : World} {A : Around} {E : Value → Shared → Prop} {s : Shared} {Q : Value → Shared → Prop} {a b : Bool} (e : a = b) (h : Q (.bool false) s) : wpAny (model prog w) A (compareOp .NotEq (.bool a) (.bool b)) Q E s := by
  subst e
  refine ne_bool ?_
  simpa using h
theorem dec_beq {p : Prop} [Decidable p] {a b : Int} (h : p ↔ a = b) : decide p = (a == b) := by
  by_cases q : p
  · have := h.mp q; simp [q, this]
  · have : ¬ a = b := fun r => q (h.mpr r)
    simp [q, this]
theorem le12 {k : Int} (h : k < 1 + (((13 : Int) - 1).toNat : Int)) : k ≤ 12 := by omega
theorem end_true {cl : Str → Option Addr} {mean : ExcName → Option Value} {args : List WData} {L : Addr} {m : Str → Option Value} {a b : Heap} {g : Array GenState} {d d' : Drawn} {t t' : Nat} {o : OsState} (F : Fr a L b m) (hg : g = #[]) :
    GoodW PySem.Challenge.rw_ak5010_01.row.claim cl mean args { heap := a, gens := g, drawn := d, toks := t, os := o } (.ok (.ret (.bool true))) { heap := b, gens := g, drawn := d', toks := t', os := o } :=
  goodW_bool F hg (raisesW_false allW_false_nil) (postW_of (by wrow_shape) (w_eq_bool (w_res rfl) w_lit) rfl) rfl
theorem lens_ne {a b st X : Int} {P : Prop} (n : ¬ List.map (fun k' => mLen k' (a - b)) (rangeKs 1 ((13 : Int) - 1).toNat) = [31, 31, 31, 31, 31, 31, 30, 30, 30, 30, 30, a + 1 - X - 336]) (q1 : b = st - 1) (q2 : st = X) : P := by
  refine absurd ?_ n
  have e : a + 1 - X = a - b := by omega
  rw [e]
  generalize a - b = c
  rfl
end

section
open PySem PySem.Flt PySem.W PySem.Spec PySem.Calls PyProof.Rows

local macro_rules | `(tactic| walk_at "binaryOp Sub float float") => `(tactic| first
  | (with_plain (refine' w_sub_hh ?hx ?hy ?ha ?hb ?_; (case hx => with_reducible (first | exact rfl | exact epochG_hf | exact epochP_hf | exact half_hf)); (case hy => with_reducible (first | exact rfl | exact epochG_hf | exact epochP_hf | exact half_hf)); (case ha => omega); (case hb => omega); (try dsimp only)))
  | (with_plain (refine' w_sub_ff ?hx ?hy ?hl ?hh ?_; (case hx => first | with_reducible assumption | exact fb_half | exact fb_trop | exact fb_epochP | exact fb_hf (by omega)); (case hy => first | with_reducible assumption | exact fb_half | exact fb_trop | exact fb_epochP | exact fb_hf (by omega)); (case hl => omega); (case hh => omega); (try dsimp only)); intro z9 fz9))
local macro_rules | `(tactic| walk_at "binaryOp Add float float") => `(tactic| first
  | (with_plain (refine' w_add_hh ?hx ?hy ?ha ?hb ?_; (case hx => with_reducible (first | exact rfl | exact epochG_hf | exact epochP_hf | exact half_hf)); (case hy => with_reducible (first | exact rfl | exact epochG_hf | exact epochP_hf | exact half_hf)); (case ha => omega); (case hb => omega); (try dsimp only)))
  | (with_plain (refine' w_add_ff ?hx ?hy ?hl ?hh ?_; (case hx => first | with_reducible assumption | exact fb_half | exact fb_trop | exact fb_epochP | exact fb_hf (by omega)); (case hy => first | with_reducible assumption | exact fb_half | exact fb_trop | exact fb_epochP | exact fb_hf (by omega)); (case hl => omega); (case hh => omega); (try dsimp only)); intro z9 fz9))
local macro_rules | `(tactic| walk_at "binaryOp Sub float int") => `(tactic| first
  | (with_plain (refine' w_sub_hi ?hx ?ha ?hb ?_; (case hx => with_reducible (first | exact rfl | exact epochG_hf | exact epochP_hf | exact half_hf)); (case ha => omega); (case hb => omega); (try dsimp only))))
local macro_rules | `(tactic| walk_at "binaryOp Add float int") => `(tactic| first
  | (with_plain (refine' w_add_hi ?hx ?ha ?hb ?_; (case hx => with_reducible (first | exact rfl | exact epochG_hf | exact epochP_hf | exact half_hf)); (case ha => omega); (case hb => omega); (try dsimp only)))
  | (with_plain (refine' w_add_fi ?hx ?hb ?hl ?hh ?_; (case hx => first | with_reducible assumption | exact fb_trop | exact fb_epochP); (case hb => omega); (case hl => omega); (case hh => omega); (try dsimp only)); intro z9 fz9)
  | (with_plain (refine' w_add_qi ?hb ?ha ?hc ?_; (case hb => omega); (case ha => omega); (case hc => omega); (try dsimp only)); intro z9 q9 fz9 lq9 uq9))
local macro_rules | `(tactic| walk_at "binaryOp Add int float") => `(tactic| first
  | (with_plain (refine' w_add_ih ?hx ?ha ?hb ?_; (case hx => with_reducible (first | exact rfl | exact epochG_hf | exact epochP_hf | exact half_hf)); (case ha => omega); (case hb => omega); (try dsimp only)))
  | (with_plain (refine' w_add_if ?hx ?hb ?hl ?hh ?_; (case hx => first | with_reducible assumption | exact fb_trop | exact fb_epochP); (case hb => omega); (case hl => omega); (case hh => omega); (try dsimp only)); intro z9 fz9))
local macro_rules | `(tactic| walk_at "binaryOp Sub int float") => `(tactic| first
  | (with_plain (refine' w_sub_ih ?hx ?ha ?hb ?_; (case hx => with_reducible (first | exact rfl | exact epochG_hf | exact epochP_hf | exact half_hf)); (case ha => omega); (case hb => omega); (try dsimp only))))
local macro_rules | `(tactic| walk_at "binaryOp Mult float int") => `(tactic| first
  | (with_plain (refine' w_mul_hi ?hx ?ha ?hb ?hb2 ?_; (case hx => with_reducible (first | exact rfl | exact epochG_hf | exact epochP_hf | exact half_hf)); (case ha => omega); (case hb => omega); (case hb2 => omega); (try dsimp only)))
  | (with_plain (refine' w_mul_Ti ?hk ?_; (case hk => omega); (try dsimp only)); intro z9 l9 r9 fz9 b19 b29 b39 b49 b59))
local macro_rules | `(tactic| walk_at "binaryOp Mod float int") => `(tactic| first
  | (with_plain (refine' w_mod_hi ?hx ?ha ?he ?hb ?hb2 ?_; (case hx => with_reducible (first | exact rfl | exact epochG_hf | exact epochP_hf | exact half_hf)); (case ha => omega); (case he => omega); (case hb => omega); (case hb2 => omega); (try dsimp only)); intro q9 r9 e9 l9 u9))
local macro_rules | `(tactic| walk_at "binaryOp Div float int") => `(tactic| first
  | (with_plain (refine' w_div_hi ?hb ?hb2 ?_; (case hb => omega); (case hb2 => omega); (try dsimp only))))
local macro_rules | `(tactic| walk_at "binaryOp Div float float") => `(tactic| first
  | (with_plain (refine' w_div_hT  ?_; (try dsimp only))))
local macro_rules | `(tactic| walk_at "binaryOp Div int int") => `(tactic| first
  | (with_plain (refine' w_div_ii ?hA ?hb ?ha ?_; (case hA => exact rfl); (case hb => omega); (case ha => omega); (try dsimp only))))
local macro_rules | `(tactic| walk_at "call builtin:math.floor") => `(tactic| first
  | (with_plain (refine' w_floor_h ?hA ?ha ?_; (case hA => exact rfl); (case ha => omega); (try dsimp only)); intro n9 l9 u9)
  | (with_plain (refine' w_floor_q ?hA ?ha ?hb ?hb2 ?_; (case hA => exact rfl); (case ha => omega); (case hb => omega); (case hb2 => omega); (try dsimp only)); intro n9 l9 u9)
  | (with_plain (refine' w_floor_ii ?hA ?ha ?hb ?hb2 ?_; (case hA => exact rfl); (case ha => omega); (case hb => omega); (case hb2 => omega); (try dsimp only)); intro n9 l9 u9)
  | (with_plain (refine' w_floor_fb ?hA ?hx ?_; (case hA => exact rfl); (case hx => with_reducible assumption); (try dsimp only)); intro n9 l9 u9))
local macro_rules | `(tactic| walk_at "call builtin:math.ceil") => `(tactic| first
  | (with_plain (refine' w_ceil_q ?hA ?ha ?hb ?hb2 ?_; (case hA => exact rfl); (case ha => omega); (case hb => omega); (case hb2 => omega); (try dsimp only)); intro n9 l9 u9))
local macro_rules | `(tactic| walk_at "call type:int") => `(tactic| first
  | (with_plain (refine' w_int_h ?hA ?ha ?he ?_; (case hA => exact rfl); (case ha => omega); (case he => omega); (try dsimp only)); intro n9 e9))
local macro_rules | `(tactic| walk_at "call builtin:round") => `(tactic| first
  | (with_plain (refine' w_round_T ?hA ?hR ?ha ?hk ?h1 ?h2 ?_; (case hA => exact rfl); (case hR => with_reducible assumption); (case ha => omega); (case hk => omega); (case h1 => omega); (case h2 => omega); (try dsimp only))))
local macro_rules | `(tactic| walk_at "compareOp Lt float int") => `(tactic| first
  | (with_plain (refine' w_lt_hi ?hx ?ha ?_; (case hx => with_reducible (first | exact rfl | exact epochG_hf | exact epochP_hf | exact half_hf)); (case ha => omega); (try dsimp only)))
  | (with_plain (refine' w_lt_fi_t ?hx ?hq ?_; (case hx => assumption); (case hq => omega); (try dsimp only)))
  | (with_plain (refine' w_lt_fi_f ?hx ?hq ?_; (case hx => assumption); (case hq => omega); (try dsimp only))))
local macro_rules | `(tactic| walk_at "compareOp LtE float int") => `(tactic| first
  | (with_plain (refine' w_le_hi ?hx ?ha ?_; (case hx => with_reducible (first | exact rfl | exact epochG_hf | exact epochP_hf | exact half_hf)); (case ha => omega); (try dsimp only))))
local macro_rules | `(tactic| walk_at "compareOp Gt float int") => `(tactic| first
  | (with_plain (refine' w_gt_hi ?hx ?ha ?_; (case hx => with_reducible (first | exact rfl | exact epochG_hf | exact epochP_hf | exact half_hf)); (case ha => omega); (try dsimp only))))
local macro_rules | `(tactic| walk_at "compareOp Gt int float") => `(tactic| first
  | (with_plain (refine' w_gt_if_t ?hx ?hq ?_; (case hx => assumption); (case hq => omega); (try dsimp only)))
  | (with_plain (refine' w_gt_if_f ?hx ?hq ?_; (case hx => assumption); (case hq => omega); (try dsimp only))))
local macro_rules | `(tactic| walk_at "compareOp LtE int float") => `(tactic| first
  | (with_plain (refine' w_le_if_t ?hx ?hq ?_; (case hx => assumption); (case hq => omega); (try dsimp only))))
local macro_rules | `(tactic| walk_at "compareOp NotEq float float") => `(tactic| first
  | (with_plain (refine' w_ne_hh ?hx ?hy ?ha ?hb ?_; (case hx => with_reducible (first | exact rfl | exact epochG_hf | exact epochP_hf | exact half_hf)); (case hy => with_reducible (first | exact rfl | exact epochG_hf | exact epochP_hf | exact half_hf)); (case ha => omega); (case hb => omega); (try dsimp only))))

section
variable {prog : Program} {w : World} {A : Around} {E : Value → Shared → Prop} {s : Shared} {t u : Tok} {Q : Value → Shared → Prop} {a b : Int}
theorem w_mod_var (hb : 2 < b) (h : ∀ r, 0 ≤ r → r < b → Q (.int r s.toks) { s with toks := s.toks + 1 }) : wpAny (model prog w) A (binaryOp .Mod (.int a t) (.int b u)) Q E s := by
  refine mod_int (by omega) ?_
  rw [Int.fmod_eq_emod_of_nonneg _ (by omega)]
  exact h _ (Int.emod_nonneg _ (by omega)) (Int.emod_lt_of_pos _ (by omega))
end
local macro_rules | `(tactic| walk_at "binaryOp Mod int int") => `(tactic| (with_plain (refine' w_mod_var ?hb ?_; (case hb => omega)); intro r9 l9 u9; (try dsimp only)))
local macro_rules | `(tactic| walk_at "call ref") => `(tactic| (k_here; kn_here; (fail_if_success (rename Eve _ _ _ _ _ _ _ _ => kV)); k_dflt (refine' law_mid ?mN ?mf ?me ?mS ?mO ?mY1 ?mY2 ?ms1 ?ms2 ?_ ?_ ?_; (case mN => k_asm); (case mf => k_mem); (case me => k_mem); (case mS => with_reducible assumption); (case mO => assumption); (case mY1 => omega); (case mY2 => omega); (case ms1 => omega); (case ms2 => omega))))
local macro_rules | `(tactic| k_mem) => `(tactic| with_reducible assumption)
local macro_rules | `(tactic| walk_at "subscriptTail Name BinOp ref int") => `(tactic| (k_here; k_dflt (refine' w_len_item ?kN ?km ?ka ?kb ?_ ?ks; (case kN => k_asm); (case km => k_mem); (case ka => exact MD.lo (by with_reducible assumption)); (case kb => exact MD.hi (by with_reducible assumption)); (case ks => with_unfolding_all rfl)); intro t9; (try dsimp only)))
local macro_rules | `(tactic| walk_at "call ref") => `(tactic| (k_here; k_dflt (refine' CallV.use (c_march _ _ _ _ ?p0 ?p1) ?cB ?cF ?cX ?cN ?cT ?cK ?cl ?cd ?cu ?_; (case cB => k_asm); (case cF => k_asm); (case cX => k_asm); (case cN => k_asm); (case cT => k_asm); (case cK => first | exact rfl | assumption); (case cl => (repeat' (first | exact sub_nil | assumption | refine sub_both (by k_mem) ?_ | refine sub_cons ?_))); (case cd => ktr_room); (case cu => ktr_units)); (case p0 => omega); (case p1 => omega); (intro t9 h9 tk9 F9 N9; (try dsimp only); (try k_fold))))
local macro_rules | `(tactic| walk_at "call ref") => `(tactic| (k_here; k_dflt (refine' CallF.use (c_toJDA ?p0 ?p1 _ _ _ _ _ _ ?p2 ?p3 ?p4 ?p5 ?p6) ?cB ?cF ?cX ?cN ?cT ?cK ?cl ?cd ?cu ?_; (case p0 => with_reducible assumption); (case p1 => with_reducible assumption); (case cB => k_asm); (case cF => k_asm); (case cX => k_asm); (case cN => k_asm); (case cT => k_asm); (case cK => first | exact rfl | assumption); (case cl => (repeat' (first | exact sub_nil | assumption | refine sub_both (by k_mem) ?_ | refine sub_cons ?_))); (case cd => ktr_room); (case cu => ktr_units)); (case p2 => omega); (case p3 => omega); (case p4 => omega); (case p5 => omega); (case p6 => omega); (intro j9 t9 h9 tk9 P9 F9 N9; subst P9; (try dsimp only); (try k_fold))))
local macro_rules | `(tactic| walk_at "call ref") => `(tactic| (k_here; k_dflt (refine' CallV.use (c_leap _ _ ?p0 _ _ ?p1) ?cB ?cF ?cX ?cN ?cT ?cK ?cl ?cd ?cu ?_; (case p0 => with_reducible assumption); (case cB => k_asm); (case cF => k_asm); (case cX => k_asm); (case cN => k_asm); (case cT => k_asm); (case cK => first | exact rfl | assumption); (case cl => (repeat' (first | exact sub_nil | assumption | refine sub_both (by k_mem) ?_ | refine sub_cons ?_))); (case cd => ktr_room); (case cu => ktr_units)); (case p1 => omega); (intro t9 h9 tk9 F9 N9; (try dsimp only); (try k_fold))))
local macro_rules | `(tactic| walk_at "call ref") => `(tactic| (k_here; k_dflt (refine' CallV.use (c_mlen _ _ ?p0 _ _ _ _ ?p1 ?p2 ?p3) ?cB ?cF ?cX ?cN ?cT ?cK ?cl ?cd ?cu ?_; (case p0 => with_reducible assumption); (case p3 => first | exact le12 (by assumption) | omega); (case cB => k_asm); (case cF => k_asm); (case cX => k_asm); (case cN => k_asm); (case cT => k_asm); (case cK => first | exact rfl | assumption); (case cl => (repeat' (first | exact sub_nil | assumption | refine sub_both (by k_mem) ?_ | refine sub_cons ?_))); (case cd => ktr_room); (case cu => ktr_units)); (case p1 => first | rfl | omega); (case p2 => first | assumption | omega); (intro t9 h9 tk9 F9 N9; (try dsimp only); (try k_fold))))
local macro_rules | `(tactic| walk_at "call ref") => `(tactic| (k_here; k_dflt (refine' CallT.use (c_toG _ _ ?p0 _ _ _ _ _ _ ?p1 ?p2 ?p3) ?cB ?cF ?cX ?cN ?cT ?cK ?cl ?cd ?cu ?_; (case p0 => with_reducible assumption); (case cB => k_asm); (case cF => k_asm); (case cX => k_asm); (case cN => k_asm); (case cT => k_asm); (case cK => first | exact rfl | assumption); (case cl => (repeat' (first | exact sub_nil | assumption | refine sub_both (by k_mem) ?_ | refine sub_cons ?_))); (case cd => ktr_room); (case cu => ktr_units)); (case p1 => omega); (case p2 => omega); (case p3 => omega); (intro a9 y9 m9 d9 u9 v9 w9 h9 tk9 P9 F9 N9; obtain ⟨e9, f9, g9⟩ := P9; subst e9; subst f9; subst g9; (try dsimp only); (try k_fold))))
local macro_rules | `(tactic| walk_at "call ref") => `(tactic| (k_here; k_dflt (refine' CallT.use (c_fromG _ _ ?p0 _ _ _ _ _ _ ?p1 ?p2 ?p3) ?cB ?cF ?cX ?cN ?cT ?cK ?cl ?cd ?cu ?_; (case p0 => with_reducible assumption); (case cB => k_asm); (case cF => k_asm); (case cX => k_asm); (case cN => k_asm); (case cT => k_asm); (case cK => first | exact rfl | assumption); (case cl => (repeat' (first | exact sub_nil | assumption | refine sub_both (by k_mem) ?_ | refine sub_cons ?_))); (case cd => ktr_room); (case cu => ktr_units)); (case p1 => omega); (case p2 => omega); (case p3 => omega); (intro a9 y9 m9 d9 u9 v9 w9 h9 tk9 P9 F9 N9; obtain ⟨e9, f9, g9⟩ := P9; subst e9; subst f9; subst g9; (try dsimp only); (try k_fold))))
local macro_rules | `(tactic| walk_at "call ref") => `(tactic| (k_here; k_dflt (refine' CallT.use (c_fromJDA ?p0 ?p1 _ _ _ ?p2 ?p3 ?p4) ?cB ?cF ?cX ?cN ?cT ?cK ?cl ?cd ?cu ?_; (case p0 => with_reducible assumption); (case p1 => with_reducible assumption); (case p2 => exact rfl); (case cB => k_asm); (case cF => k_asm); (case cX => k_asm); (case cN => k_asm); (case cT => k_asm); (case cK => first | exact rfl | assumption); (case cl => (repeat' (first | exact sub_nil | assumption | refine sub_both (by k_mem) ?_ | refine sub_cons ?_))); (case cd => ktr_room); (case cu => ktr_units)); (case p3 => omega); (case p4 => omega); (intro a9 y9 m9 d9 u9 v9 w9 h9 tk9 P9 F9 N9; obtain ⟨e9, g9⟩ := P9; subst e9; (try dsimp only); (try k_fold))))

local macro_rules | `(tactic| walk_at "call ref") => `(tactic| (k_here; k_dflt (refine' CallT.use (c_fromJDm ?p0 ?p1 ?p2 _ _ ?p3 ?p4 ?p5) ?cB ?cF ?cX ?cN ?cT ?cK ?cl ?cd ?cu ?_; (case p0 => with_reducible assumption); (case p1 => with_reducible assumption); (case p2 => with_reducible assumption); (case cB => k_asm); (case cF => k_asm); (case cX => k_asm); (case cN => k_asm); (case cT => k_asm); (case cK => first | exact rfl | assumption); (case cl => (repeat' (first | exact sub_nil | assumption | refine sub_both (by k_mem) ?_ | refine sub_cons ?_))); (case cd => ktr_room); (case cu => ktr_units)); (case p3 => first | with_reducible assumption | omega); (case p4 => omega); (case p5 => omega); (intro a9 y9 m9 d9 u9 v9 w9 h9 tk9 P9 F9 N9; obtain ⟨e9, f9, g9⟩ := P9; subst e9; subst f9; subst g9; (try dsimp only); (try k_fold))))
local macro_rules | `(tactic| walk_at "call ref") => `(tactic| (k_here; k_dflt (refine' CallV.use (c_toJDm ?p0 ?p1 ?p2 _ _ _ _ ?p3 ?p4) ?cB ?cF ?cX ?cN ?cT ?cK ?cl ?cd ?cu ?_; (case p0 => with_reducible assumption); (case p1 => with_reducible assumption); (case p2 => with_reducible assumption); (case cB => k_asm); (case cF => k_asm); (case cX => k_asm); (case cN => k_asm); (case cT => k_asm); (case cK => first | exact rfl | assumption); (case cl => (repeat' (first | exact sub_nil | assumption | refine sub_both (by k_mem) ?_ | refine sub_cons ?_))); (case cd => ktr_room); (case cu => ktr_units)); (case p3 => first | with_reducible assumption | omega); (case p4 => omega); (intro t9 h9 tk9 F9 N9; (try dsimp only); (try k_fold))))
local macro_rules | `(tactic| walk_at "compareOp NotEq bool bool") => `(tactic| (with_plain (refine' w_ne_bb ?he ?_; (case he => (apply dec_beq; omega)); (try dsimp only))))
local macro_rules | `(tactic| walk_at "compareOp NotEq float float") => `(tactic| (with_plain (refine' w_ne_same ?hx ?hy ?ha ?he ?_; (case hx => with_reducible exact rfl); (case hy => with_reducible exact rfl); (case ha => omega); (case he => omega); (try dsimp only))))
local macro_rules | `(tactic| walk_at "call ref") => `(tactic| (k_here; k_dflt (refine' CallV.use (FirstOK.at1 ?p0 ?p1) ?cB ?cF ?cX ?cN ?cT ?cK ?cl ?cd ?cu ?_; (case p0 => with_reducible assumption); (case cB => k_asm); (case cF => k_asm); (case cX => k_asm); (case cN => k_asm); (case cT => k_asm); (case cK => first | exact rfl | assumption); (case cl => (repeat' (first | exact sub_nil | assumption | refine sub_both (by k_mem) ?_ | refine sub_cons ?_))); (case cd => ktr_room); (case cu => ktr_units)); (case p1 => omega); (intro t9 h9 tk9 F9 N9; (try dsimp only); (try k_fold))))
local macro_rules | `(tactic| walk_at "call ref") => `(tactic| (k_here; k_dflt (refine' CallV.use (FirstF.calls ?p0 _ _ ?p1 ?p2) ?cB ?cF ?cX ?cN ?cT ?cK ?cl ?cd ?cu ?_; (case p0 => with_reducible assumption); (case cB => k_asm); (case cF => k_asm); (case cX => k_asm); (case cN => k_asm); (case cT => k_asm); (case cK => first | exact rfl | assumption); (case cl => (repeat' (first | exact sub_nil | assumption | refine sub_both (by k_mem) ?_ | refine sub_cons ?_))); (case cd => ktr_room); (case cu => ktr_units)); (case p1 => omega); (case p2 => omega); (intro t9 h9 tk9 F9 N9; (try dsimp only); (try k_fold))))

set_option maxHeartbeats 0 in
theorem law_holds : PySem.Challenge.rw_ak5010_01.Holds := hd (by
  k_go0
  (all_goals try k_fold)
  (repeat' (first | (k_unfold; (try dsimp only)) | walk1 | (dsimp only; walk1) | (leave1; walk_say "STEP leave1"; try dsimp only) | fail "no step"))
  · unfold Later
    intro n9 t9 hb1 hb2
    unfold CallV
    intro dp un gd cn cs a ccd cl outer A₀ base h₀ L m news s p loose mean mg mb Q E' B F X N T hk hl hd hu hret
    (repeat (replace hl := hl_split hl; obtain ⟨hm9, hl⟩ := hl))
    refine wpAny_call ?_
    (k_dflt (refine' code_nest ?k1 ?k2 ?k3 ?k4 ?k5 ?kA ?kF ?kK ?k6 ?k7 ?k8 ?k9 ?kB ?_ ?c2 ?c3 ?c4 ?c5; (case kA => exact rfl); (case kF => exact rfl); (case kK => assumption); (case k1 => k_asm); (case k2 => k_asm); (case k3 => k_asm); (case k4 => k_asm); (case k5 => k_asm); (case k6 => k_mem); (case k7 => exact codeRec_news (by k_asm) (by k_mem) (by assumption) (by assumption)); (case k8 => ktr_room); (case k9 => exact BindsTo.of_eq rfl); (case c5 => decide); (case kB => exact locs rfl); (case c2 => exact rfl); (case c3 => exact rfl); (case c4 => exact rfl); k_whole; intro g' L' h' FG' F' N' B' X' T'; (try dsimp only); (try k_lift B'); (try k_fold)))
    k_steps
    (refine cb_retI (Q := Q) hret ?e1 ?e2 ?e3; (case e2 => k_asm); (case e3 => (refine' cb_drop ?n1 ?n2; (case n1 => k_asm); (case n2 => (intro q hq; (repeat (first | exact hq | refine List.Mem.tail _ ?_)))))); (case e1 => exact first_pos (by omega) (by omega)))
    (refine cb_retI (Q := Q) hret ?e1 ?e2 ?e3; (case e2 => k_asm); (case e3 => (refine' cb_drop ?n1 ?n2; (case n1 => k_asm); (case n2 => (intro q hq; (repeat (first | exact hq | refine List.Mem.tail _ ?_)))))); (case e1 => exact first_neg (by omega) (by omega) (oddL_len _)))
  · unfold Later
    intro hF n9 t9 hb1 hb2
    unfold CallV
    intro dp un gd cn cs a ccd cl outer A₀ base h₀ L m news s p loose mean mg mb Q E' B F X N T hk hl hd hu hret
    have hl0 := hl
    (repeat (replace hl := hl_split hl; obtain ⟨hm9, hl⟩ := hl))
    refine wpAny_call ?_
    (k_dflt (refine' code_nest ?k1 ?k2 ?k3 ?k4 ?k5 ?kA ?kF ?kK ?k6 ?k7 ?k8 ?k9 ?kB ?_ ?c2 ?c3 ?c4 ?c5; (case kA => exact rfl); (case kF => exact rfl); (case kK => assumption); (case k1 => k_asm); (case k2 => k_asm); (case k3 => k_asm); (case k4 => k_asm); (case k5 => k_asm); (case k6 => k_mem); (case k7 => exact codeRec_news (by k_asm) (by k_mem) (by assumption) (by assumption)); (case k8 => ktr_room); (case k9 => exact BindsTo.of_eq rfl); (case c5 => decide); (case kB => exact locs rfl); (case c2 => exact rfl); (case c3 => exact rfl); (case c4 => exact rfl); k_whole; intro g' L' h' FG' F' N' B' X' T'; (try dsimp only); (try k_lift B'); (try k_fold)))
    k_steps
    (refine cb_retI (Q := Q) hret ?e1 ?e2 ?e3; (case e2 => k_asm); (case e3 => (refine' cb_drop ?n1 ?n2; (case n1 => k_asm); (case n2 => (intro q hq; (repeat (first | exact hq | refine List.Mem.tail _ ?_)))))); (case e1 => rfl))
  · unfold Later
    intro E st hst V hFO
    have hcy := candOf V
    have hfa := V.facts
    (k_with "exec While Compare cons nil" => k_while_given ["place", "length"] (fun place len script month day => MD place len month day) (fun place len script month day => (13 - month).toNat) "month" "day")
    (k_with "state" => first | exact MD.start (by omega) (by omega) (by omega) (by omega) | exact MD.turn (by with_reducible assumption) (by with_reducible assumption))
    (k_with "measure" => exact MD.small (by with_reducible assumption))
    (repeat' (first | (k_unfold; (try dsimp only)) | walk1 | (dsimp only; walk1) | (leave1; walk_say "STEP leave1"; try dsimp only) | fail "no step"))
    · (refine' end_true ?F ?g; (case F => with_reducible assumption); (case g => with_reducible assumption))
    · (refine' lens_ne ?n hfa.1 hst; (case n => with_reducible assumption)))
end

end Mine

set_option maxRecDepth 100000 in
set_option maxHeartbeats 8000000 in
theorem PySem.Challenge.cw_ak5010_01_holds : PySem.Challenge.rw_ak5010_01.Holds := by
  exact Mine.law_holds
