import PyProof.Rows.All
import Wide.All
import OpenK.AllK
import Wide.FinOn
import Flt.RightMore
import Flt.Calls
import Lean
import PySem.Challenge.RW_ad5027_01
set_option Elab.async false
namespace Mine
section
open PySem PySem.Float64

theorem val_zero (b : Bool) : (∃ a m e, decode (zero b) = .fin a m e) ∧ val (zero b) = 0 := by
  have h : decode (zero b) = .fin b 0 (-1074) := by cases b <;> with_unfolding_all rfl
  refine ⟨⟨_, _, _, h⟩, ?_⟩
  rw [val_eq h]; cases b <;> simp [sgn]

def Fin' (x : UInt64) : Prop := ∃ a m e, decode x = .fin a m e

def Rep (g : Int) : Prop := ∃ t, t < infMag ∧ g.natAbs = V t

theorem V_top : V (infMag - 1) = (2 ^ 53 - 1) * 2 ^ 2045 := by
  have e : infMag - 1 = 2045 * 2 ^ 52 + (2 ^ 53 - 1) := by unfold infMag; decide
  rw [e, V_at (by decide) (Or.inl (by decide))]

theorem right_fin {r : UInt64} {neg : Bool} {W D t' : Nat} (h : Right r neg W D) (hD : 0 < D) (ht : t' < infMag) (hle : W ≤ D * V t') :
    ∃ t, t < infMag ∧ r = pack neg t ∧ V t ≤ V t' := by
  obtain ⟨t, rfl, h1, h2, h3⟩ := h
  have hlt : t < infMag := by
    refine Nat.lt_of_le_of_ne h1 fun e => ?_
    have q := h2.mp e
    have m : V t' ≤ V (infMag - 1) := V_mono (by omega)
    rw [V_top] at m
    have m2 : D * V t' ≤ D * ((2 ^ 53 - 1) * 2 ^ 2045) := Nat.mul_le_mul_left D m
    have e2 : D * ((2 ^ 54 - 1) * 2 ^ 2045) = 2 * (D * ((2 ^ 53 - 1) * 2 ^ 2045)) + D * 2 ^ 2045 := by
      have : (2 ^ 54 - 1 : Nat) = 2 * (2 ^ 53 - 1) + 1 := by decide
      rw [this, Nat.add_mul, Nat.mul_add, Nat.one_mul, Nat.mul_assoc, Nat.mul_left_comm]
    have e3 : 0 < D * 2 ^ 2045 := Nat.mul_pos hD (Nat.two_pow_pos _)
    rw [e2] at q
    generalize D * ((2 ^ 53 - 1) * 2 ^ 2045) = X at *
    generalize D * 2 ^ 2045 = Y at *
    generalize D * V t' = Z at *
    omega
  refine ⟨t, hlt, rfl, ?_⟩
  have n := (h3 hlt t').1
  refine Nat.le_of_not_lt fun c => ?_
  have c' : D * V t' < D * V t := Nat.mul_lt_mul_of_pos_left c hD
  unfold dist at n
  omega
theorem right_lo {neg : Bool} {W D t t' : Nat} (h : Right (pack neg t) neg W D) (ht : t < infMag) (hD : 0 < D) (hge : D * V t' ≤ W) : V t' ≤ V t := by
  obtain ⟨t2, e, h1, h2, h3⟩ := h
  have : t = t2 := by
    have e1 := congrArg UInt64.toNat e
    have hi : infMag = 2047 * 2 ^ 52 := rfl
    rw [pack_toNat neg (by omega), pack_toNat neg (by omega)] at e1
    omega
  subst this
  have n := (h3 ht t').1
  refine Nat.le_of_not_lt fun c => ?_
  have c' : D * V t < D * V t' := Nat.mul_lt_mul_of_pos_left c hD
  unfold dist at n
  omega

theorem right_between {r : UInt64} {neg : Bool} {z g1 g2 : Int} {D : Nat} (h : Right r neg z.natAbs D) (hD : 0 < D) (hs1 : neg = true → z ≤ 0) (hs2 : neg = false → 0 ≤ z)
    (r1 : Rep g1) (r2 : Rep g2) (h1 : g1 * D ≤ z) (h2 : z ≤ g2 * D) : Fin' r ∧ g1 ≤ val r ∧ val r ≤ g2 := by
  obtain ⟨t1, ht1, e1⟩ := r1
  obtain ⟨t2, ht2, e2⟩ := r2
  have hDi : (0 : Int) < D := by omega
  cases neg with
  | false =>
    have hz := hs2 rfl
    have hg2 : 0 ≤ g2 := by
      refine Int.not_lt.mp fun c => ?_
      have := Int.mul_neg_of_neg_of_pos c hDi
      omega
    have b2 : z.natAbs ≤ D * V t2 := by
      rw [← e2]
      have : (z.natAbs : Int) ≤ ((D * g2.natAbs : Nat) : Int) := by
        rw [Int.natCast_mul, Int.natAbs_of_nonneg hz, Int.natAbs_of_nonneg hg2, Int.mul_comm]; exact h2
      exact Int.ofNat_le.mp this
    obtain ⟨t, ht, rfl, hle⟩ := right_fin h hD ht2 b2
    obtain ⟨m, e, hd, _⟩ := decode_pack false ht
    refine ⟨⟨_, _, _, hd⟩, ?_, ?_⟩
    · rw [val_pack false ht]
      show g1 ≤ (V t : Int)
      by_cases hg1 : g1 < 0
      · omega
      · have : D * V t1 ≤ z.natAbs := by
          rw [← e1]
          have : ((D * g1.natAbs : Nat) : Int) ≤ (z.natAbs : Int) := by
            rw [Int.natCast_mul, Int.natAbs_of_nonneg hz, Int.natAbs_of_nonneg (by omega), Int.mul_comm]; exact h1
          exact Int.ofNat_le.mp this
        have := right_lo h ht hD this
        omega
    · rw [val_pack false ht]
      show (V t : Int) ≤ g2
      omega
  | true =>
    have hz := hs1 rfl
    have hg1 : g1 ≤ 0 := by
      refine Int.not_lt.mp fun c => ?_
      have := Int.mul_pos c hDi
      omega
    have b1 : z.natAbs ≤ D * V t1 := by
      rw [← e1]
      have : (z.natAbs : Int) ≤ ((D * g1.natAbs : Nat) : Int) := by
        rw [Int.natCast_mul, Int.ofNat_natAbs_of_nonpos hz, Int.ofNat_natAbs_of_nonpos hg1, Int.mul_comm, Int.neg_mul]; omega
      exact Int.ofNat_le.mp this
    obtain ⟨t, ht, rfl, hle⟩ := right_fin h hD ht1 b1
    obtain ⟨m, e, hd, _⟩ := decode_pack true ht
    refine ⟨⟨_, _, _, hd⟩, ?_, ?_⟩
    · rw [val_pack true ht]
      show g1 ≤ -(V t : Int)
      omega
    · rw [val_pack true ht]
      show -(V t : Int) ≤ g2
      by_cases hg2 : 0 < g2
      · omega
      · have : D * V t2 ≤ z.natAbs := by
          rw [← e2]
          have : ((D * g2.natAbs : Nat) : Int) ≤ (z.natAbs : Int) := by
            rw [Int.natCast_mul, Int.ofNat_natAbs_of_nonpos hz, Int.ofNat_natAbs_of_nonpos (by omega), Int.mul_comm, Int.neg_mul]; omega
          exact Int.ofNat_le.mp this
        have := right_lo h ht hD this
        omega

theorem rep_of {n : Int} {k : Nat} (hn : n.natAbs < 2 ^ 53) (hk : 53 ≤ k) (hk2 : k ≤ 1900) : Rep (n * 2 ^ k) := by
  have hi : infMag = 2047 * 2 ^ 52 := rfl
  have e0 : (n * 2 ^ k).natAbs = n.natAbs * 2 ^ k := by rw [Int.natAbs_mul, Int.natAbs_pow]; rfl
  by_cases h0 : n.natAbs = 0
  · exact ⟨0, by omega, by rw [e0, h0, V_zero]; omega⟩
  generalize n.natAbs = M at *
  have l1 := Nat.log2_self_le h0
  have l2 := @Nat.lt_log2_self M
  have hl : M.log2 < 53 := (Nat.log2_lt h0).mpr hn
  generalize M.log2 = L at *
  have e1 : M * 2 ^ k = M * 2 ^ (52 - L) * 2 ^ (k - (52 - L)) := by rw [Nat.mul_assoc, ← Nat.pow_add]; congr 2; omega
  have p1 : 2 ^ 52 ≤ M * 2 ^ (52 - L) := by
    have : 2 ^ L * 2 ^ (52 - L) = 2 ^ 52 := by rw [← Nat.pow_add]; congr 1; omega
    rw [← this]; exact Nat.mul_le_mul_right _ l1
  have p2 : M * 2 ^ (52 - L) < 2 ^ 53 := by
    have : 2 ^ (L + 1) * 2 ^ (52 - L) = 2 ^ 53 := by rw [← Nat.pow_add]; congr 1; omega
    rw [← this]; exact Nat.mul_lt_mul_of_pos_right l2 (Nat.two_pow_pos _)
  refine ⟨(k - (52 - L)) * 2 ^ 52 + M * 2 ^ (52 - L), ?_, ?_⟩
  · omega
  · rw [e0, e1, V_at (by omega) (.inl p1)]

def Q : Int := 2 ^ 1072
theorem Q_pos : 0 < Q := by unfold Q; exact Int.pow_pos (by decide)
theorem Q4 : (2 : Int) ^ 1074 = 4 * Q := by unfold Q; decide +kernel

/-- x is finite, of the value n / 4 -/
def FQ (x : UInt64) (n : Int) : Prop := Fin' x ∧ val x = n * Q

theorem fq_of_right {r : UInt64} {neg : Bool} {z n : Int} {D : Nat} (h : Right r neg z.natAbs D) (hD : 0 < D) (hs1 : neg = true → z ≤ 0) (hs2 : neg = false → 0 ≤ z)
    (hz : z = n * Q * D) (hn : n.natAbs < 2 ^ 53) : FQ r n := by
  have R : Rep (n * Q) := rep_of hn (by decide) (by decide)
  obtain ⟨f, a, b⟩ := right_between h hD hs1 hs2 R R (by omega) (by omega)
  exact ⟨f, by omega⟩

theorem FQ.finite {x : UInt64} {n : Int} (h : FQ x n) : isFinite x = true := by
  obtain ⟨⟨a, m, e, hd⟩, _⟩ := h; unfold isFinite; rw [hd]
theorem FQ.notNaN {x : UInt64} {n : Int} (h : FQ x n) : isNaN x = false := by
  obtain ⟨⟨a, m, e, hd⟩, _⟩ := h; unfold isNaN; rw [hd]
theorem FQ.notInf {x : UInt64} {n : Int} (h : FQ x n) : isInf x = false := by
  obtain ⟨⟨a, m, e, hd⟩, _⟩ := h; unfold isInf; rw [hd]
theorem FQ.uniq {x : UInt64} {n k : Int} (h : FQ x n) (h' : FQ x k) : n = k := by
  have := h.2.symm.trans h'.2
  exact Int.eq_of_mul_eq_mul_right (Int.ne_of_gt Q_pos) this

theorem FQ.add {x y : UInt64} {a b : Int} (hx : FQ x a) (hy : FQ y b) (hn : (a + b).natAbs < 2 ^ 53) : FQ (add x y) (a + b) := by
  obtain ⟨⟨_, _, _, dx⟩, vx⟩ := hx
  obtain ⟨⟨_, _, _, dy⟩, vy⟩ := hy
  obtain ⟨h0, h1⟩ := add_right dx dy
  have e : val x + val y = (a + b) * Q := by rw [vx, vy, Int.add_mul]
  rw [e] at h0 h1
  by_cases c : (a + b) * Q = 0
  · rw [h0 c]
    exact ⟨(val_zero _).1, by rw [(val_zero _).2, c]⟩
  · exact fq_of_right (h1 c) (by decide) (fun q => by have := of_decide_eq_true q; omega) (fun q => by have := of_decide_eq_false q; omega) (by simp) hn
theorem FQ.neg {x : UInt64} {a : Int} (hx : FQ x a) : FQ (neg x) (-a) := by
  obtain ⟨⟨_, _, _, dx⟩, vx⟩ := hx
  exact ⟨⟨_, _, _, neg_decode dx⟩, by rw [neg_val dx, vx, Int.neg_mul]⟩
theorem FQ.sub {x y : UInt64} {a b : Int} (hx : FQ x a) (hy : FQ y b) (hn : (a - b).natAbs < 2 ^ 53) : FQ (sub x y) (a - b) := by
  have := FQ.add hx hy.neg (by rw [← Int.sub_eq_add_neg]; exact hn)
  rw [← Int.sub_eq_add_neg] at this
  with_unfolding_all exact this
theorem four_swap (i : Int) : i * (4 * Q) = 4 * i * Q * ((1 : Nat) : Int) := by
  have o : ((1 : Nat) : Int) = 1 := rfl
  rw [o, Int.mul_one, Int.mul_comm 4 i, Int.mul_assoc]
theorem FQ.ofInt {i : Int} (hn : i.natAbs < 2 ^ 51) : FQ (ofInt i) (4 * i) := by
  have h := ofInt_right i
  have e : i.natAbs * 2 ^ 1074 = (i * (4 * Q)).natAbs := by rw [← Q4, Int.natAbs_mul, Int.natAbs_pow]; rfl
  rw [e] at h
  have p : (0 : Int) < 4 * Q := by have := Q_pos; omega
  refine fq_of_right h (by decide) (fun q => ?_) (fun q => ?_) (four_swap i) (by omega)
  · exact Int.mul_nonpos_of_nonpos_of_nonneg (by have := of_decide_eq_true q; omega) (by omega)
  · exact Int.mul_nonneg (by have := of_decide_eq_false q; omega) (by omega)

theorem sgn_sign {x : UInt64} {a : Bool} {m : Nat} {e : Int} (h : decode x = .fin a m e) : (a = true → val x ≤ 0) ∧ (a = false → 0 ≤ val x) := by
  rw [val_eq h]; unfold sgn; constructor <;> intro q <;> subst q
  · exact Int.neg_nonpos_of_nonneg (Int.natCast_nonneg _)
  · exact Int.natCast_nonneg _

theorem sign_mul {a b : Bool} {x y : Int} (ha : (a = true → x ≤ 0) ∧ (a = false → 0 ≤ x)) (hb : (b = true → y ≤ 0) ∧ (b = false → 0 ≤ y)) :
    ((a != b) = true → x * y ≤ 0) ∧ ((a != b) = false → 0 ≤ x * y) := by
  cases a <;> cases b <;> simp at ha hb ⊢
  · exact Int.mul_nonneg ha hb
  · exact Int.mul_nonpos_of_nonneg_of_nonpos ha hb
  · exact Int.mul_nonpos_of_nonpos_of_nonneg ha hb
  · exact Int.mul_nonneg_of_nonpos_of_nonpos ha hb

/-- a product with a whole number -/
theorem FQ.mul4 {x y : UInt64} {a b : Int} (hx : FQ x a) (hy : FQ y (4 * b)) (hn : (a * b).natAbs < 2 ^ 53) : FQ (mul x y) (a * b) := by
  obtain ⟨⟨_, _, _, dx⟩, vx⟩ := hx
  obtain ⟨⟨_, _, _, dy⟩, vy⟩ := hy
  have h := mul_right dx dy
  rw [← Int.natAbs_mul] at h
  have s := sign_mul (sgn_sign dx) (sgn_sign dy)
  refine fq_of_right h (Nat.two_pow_pos _) s.1 s.2 ?_ hn
  have e : ((2 ^ 1074 : Nat) : Int) = 4 * Q := by rw [← Q4, Int.natCast_pow]; rfl
  rw [vx, vy, e]
  generalize Q = q
  rw [Int.mul_assoc, Int.mul_assoc a b, Int.mul_assoc 4 b, Int.mul_left_comm q 4, Int.mul_assoc a, Int.mul_assoc b, Int.mul_left_comm q b, Int.mul_left_comm 4 b, Int.mul_left_comm q 4 q]

theorem FQ.cmp {x y : UInt64} {a b : Int} (hx : FQ x a) (hy : FQ y b) : cmp x y = some (compare a b) := by
  obtain ⟨⟨_, _, _, dx⟩, vx⟩ := hx
  obtain ⟨⟨_, _, _, dy⟩, vy⟩ := hy
  rw [cmp_right dx dy, vx, vy]
  congr 1
  have hK := Q_pos
  rcases Int.lt_trichotomy a b with h | h | h
  · rw [Int.compare_eq_lt.mpr h, Int.compare_eq_lt.mpr (Int.mul_lt_mul_of_pos_right h hK)]
  · subst h; simp
  · rw [Int.compare_eq_gt.mpr h, Int.compare_eq_gt.mpr (Int.mul_lt_mul_of_pos_right h hK)]
theorem FQ.cmpInt {x : UInt64} {a : Int} (hx : FQ x a) (i : Int) : cmpInt x i = some (compare a (4 * i)) := by
  obtain ⟨⟨_, _, _, dx⟩, vx⟩ := hx
  rw [cmpInt_right dx, vx, Q4, ← Int.mul_assoc, Int.mul_comm i 4]
  congr 1
  have hK := Q_pos
  rcases Int.lt_trichotomy a (4 * i) with h | h | h
  · rw [Int.compare_eq_lt.mpr h, Int.compare_eq_lt.mpr (Int.mul_lt_mul_of_pos_right h hK)]
  · rw [h]; simp
  · rw [Int.compare_eq_gt.mpr h, Int.compare_eq_gt.mpr (Int.mul_lt_mul_of_pos_right h hK)]
theorem FQ.eq {x y : UInt64} {a b : Int} (hx : FQ x a) (hy : FQ y b) : (PySem.Float64.cmp x y == some .eq) = decide (a = b) := by
  rw [hx.cmp hy]
  rcases Int.lt_trichotomy a b with h | h | h
  · rw [Int.compare_eq_lt.mpr h, decide_eq_false (by omega)]; rfl
  · subst h; simp
  · rw [Int.compare_eq_gt.mpr h, decide_eq_false (by omega)]; rfl
theorem FQ.lt {x y : UInt64} {a b : Int} (hx : FQ x a) (hy : FQ y b) : (PySem.Float64.cmp x y == some .lt) = decide (a < b) := by
  rw [hx.cmp hy]
  rcases Int.lt_trichotomy a b with h | h | h
  · rw [Int.compare_eq_lt.mpr h, decide_eq_true h]; rfl
  · subst h; simp
  · rw [Int.compare_eq_gt.mpr h, decide_eq_false (by omega)]; rfl

theorem floor_spec {x : UInt64} {s : Bool} {m : Nat} {e : Int} (h : decode x = .fin s m e) : floorOf s m e * (4 * Q) ≤ val x ∧ val x < (floorOf s m e + 1) * (4 * Q) := by
  have hg := decode_ge h
  have pos : ∀ n : Nat, (0 : Int) < 2 ^ n := fun n => Int.pow_pos (by decide)
  have hv : val x = sgn s m * 2 ^ (e + 1074).toNat := by rw [val_eq h, sgn_mul]; simp
  rw [hv, ← Q4]
  unfold floorOf
  split
  · rename_i he
    have e1 : (e + 1074).toNat = e.toNat + 1074 := by omega
    rw [e1, Int.pow_add, ← Int.mul_assoc]
    have := pos 1074
    refine ⟨Int.le_refl _, ?_⟩
    rw [Int.add_mul]; omega
  · rename_i he
    have e1 : (2 : Int) ^ 1074 = 2 ^ (-e).toNat * 2 ^ (e + 1074).toNat := by rw [← Int.pow_add]; congr 1; omega
    have p1 := pos (-e).toNat
    have p2 := pos (e + 1074).toNat
    rw [e1]
    generalize (2 : Int) ^ (e + 1074).toNat = R at *
    have hd := Int.mul_fdiv_add_fmod (sgn s m) (2 ^ (-e).toNat)
    have hm1 := Int.fmod_nonneg_of_pos (sgn s m) p1
    have hm2 := Int.fmod_lt_of_pos (sgn s m) p1
    generalize (sgn s m).fdiv (2 ^ (-e).toNat) = d at *
    generalize (sgn s m).fmod (2 ^ (-e).toNat) = r at *
    generalize (2 : Int) ^ (-e).toNat = P at *
    generalize sgn s m = A at *
    constructor
    · rw [← Int.mul_assoc]
      refine Int.mul_le_mul_of_nonneg_right ?_ (by omega)
      rw [Int.mul_comm]; omega
    · rw [← Int.mul_assoc]
      refine Int.mul_lt_mul_of_pos_right ?_ p2
      rw [Int.add_mul, Int.mul_comm d P]; omega

theorem floor_uniq {j k v : Int} (h1 : j * (4 * Q) ≤ v) (h2 : v < (j + 1) * (4 * Q)) (h3 : k * (4 * Q) ≤ v) (h4 : v < (k + 1) * (4 * Q)) : j = k := by
  have p : (0 : Int) < 4 * Q := by have := Q_pos; omega
  have a : j < k + 1 := Int.lt_of_mul_lt_mul_right (Int.lt_of_le_of_lt h1 h4) (by omega)
  have b : k < j + 1 := Int.lt_of_mul_lt_mul_right (Int.lt_of_le_of_lt h3 h2) (by omega)
  omega

theorem floor_between {x : UInt64} {k : Int} (hf : Fin' x) (h1 : k * (4 * Q) ≤ val x) (h2 : val x < (k + 1) * (4 * Q)) : PySem.Flt.toInt floorOf x = k := by
  obtain ⟨s, m, e, hd⟩ := hf
  rw [PySem.Flt.toInt_fin hd]
  have := floor_spec hd
  exact floor_uniq this.1 this.2 h1 h2

theorem FQ.floor {x : UInt64} {n : Int} (hx : FQ x n) : PySem.Flt.toInt floorOf x = n / 4 := by
  refine floor_between hx.1 ?_ ?_
  · rw [hx.2, ← Int.mul_assoc]
    exact Int.mul_le_mul_of_nonneg_right (by omega) (Int.le_of_lt Q_pos)
  · rw [hx.2, ← Int.mul_assoc]
    exact Int.mul_lt_mul_of_pos_right (by omega) Q_pos

theorem FQ.trunc {x : UInt64} {n : Int} (hx : FQ x (4 * n)) : PySem.Flt.toInt truncOf x = n := by
  have hx' := hx
  obtain ⟨⟨s, m, e, hd⟩, hv⟩ := hx
  rw [PySem.Flt.toInt_fin hd]
  have f1 := FQ.floor hx'
  have f2 := FQ.floor (FQ.neg hx')
  rw [PySem.Flt.toInt_fin hd] at f1
  rw [PySem.Flt.toInt_fin (neg_decode hd)] at f2
  unfold truncOf ceilOf
  split
  · rw [f2]; omega
  · rw [f1]; omega

end
section
open PySem PySem.Float64

def P : Int := 2 ^ 1070
def T : Int := 2 ^ 1050
theorem T_pos : 0 < T := by unfold T; exact Int.pow_pos (by decide)
theorem PT : P = 1048576 * T := by unfold P T; decide +kernel
theorem QT : Q = 4194304 * T := by unfold Q T; decide +kernel
theorem pow_T : ((2 ^ 1074 : Nat) : Int) = 16777216 * T := by unfold T; rw [Int.natCast_pow]; decide +kernel

theorem ac1 (q d T c : Int) : q * (4 * (c * T)) * (d * (c * T)) = q * (4 * d) * ((c * c) * (T * T)) := by ac_rfl
theorem ac2 (lo T c c' : Int) : lo * (c * T) * (c' * T) = lo * ((c * c') * (T * T)) := by ac_rfl
theorem ac3 (w T d c : Int) : w * T * (d * (c * T)) = w * d * (c * (T * T)) := by ac_rfl
theorem ac4 (z d c : Int) : z * (4 * c) * d = z * (4 * d) * c := by ac_rfl
theorem ac5 (hi c T : Int) : hi * ((c * c) * (T * T)) = hi * c * (c * (T * T)) := by ac_rfl
theorem ac6 (z c T : Int) : z * (4 * (c * T)) = z * (4 * c) * T := by ac_rfl
theorem ac7 (q c T b : Int) : q * (4 * (c * T)) * b = b * q * ((4 * c) * T) := by ac_rfl
theorem ac8 (w T b : Int) : w * T * b = w * b * T := by ac_rfl
theorem mod_scale (z d q : Int) (hq : 0 < q) (hd : 0 < d) : (z * q) % (d * q) = (z % d) * q := by
  have m1 := Int.mul_ediv_add_emod z d
  have m2 := Int.emod_nonneg z (Int.ne_of_gt hd)
  have m3 := Int.emod_lt_of_pos z hd
  have e : z * q = (z % d) * q + (d * q) * (z / d) := by
    conv => lhs; rw [← m1]
    rw [Int.add_mul, Int.add_comm, Int.mul_right_comm]
  rw [e, Int.add_mul_emod_self_left]
  exact Int.emod_eq_of_lt (Int.mul_nonneg m2 (Int.le_of_lt hq)) (Int.mul_lt_mul_of_pos_right m3 hq)
theorem l16 : (4 : Int) * 4194304 = 16777216 := by decide
theorem l17 : (4194304 : Int) * 4194304 = 17592186044416 := by decide
theorem l18 : (1048576 : Int) * 16777216 = 17592186044416 := by decide
theorem mul_le_cancel {a b k : Int} (hk : 0 < k) (h : a ≤ b) : a * k ≤ b * k := Int.mul_le_mul_of_nonneg_right h (Int.le_of_lt hk)

/-- the floor of a quotient by a positive number: x between lo/16 and hi/16, y = d/4 -/
theorem floor_div {x y : UInt64} {lo hi d q : Int} (hx : Fin' x) (h1 : lo * P ≤ val x) (h2 : val x ≤ hi * P) (hy : FQ y d) (hd : 0 < d) (hd2 : d < 4194304)
    (hq1 : q * (4 * d) ≤ lo) (hq2 : hi < (q + 1) * (4 * d)) (hb : q.natAbs < 2 ^ 28) : Fin' (div x y) ∧ PySem.Flt.toInt floorOf (div x y) = q := by
  obtain ⟨sxx, mxx, exx, dx⟩ := hx
  obtain ⟨⟨b, k, f, dy⟩, vy⟩ := hy
  have hT := T_pos
  have hvy : 0 < val y := by rw [vy]; exact Int.mul_pos hd Q_pos
  have hb0 : b = false := by
    cases b with
    | false => rfl
    | true => have := (sgn_sign dy).1 rfl; omega
  subst hb0
  have hk : k ≠ 0 := by
    intro e
    subst e
    rw [val_eq dy] at hvy
    simp [sgn] at hvy
  have h := div_right dx dy hk
  have sx := sgn_sign dx
  have e1 : (val x).natAbs * 2 ^ 1074 = (val x * (16777216 * T)).natAbs := by rw [← pow_T, Int.natAbs_mul]; rfl
  rw [e1] at h
  have R1 : Rep (q * (4 * Q)) := by
    have : q * (4 * Q) = q * 2 ^ 1074 := by rw [Q4]
    rw [this]; exact rep_of (by omega) (by decide) (by decide)
  have R2 : Rep (((q + 1) * 16777216 - 1) * T) := rep_of (by omega) (by decide) (by decide)
  have hD : 0 < (val y).natAbs := by omega
  have eD : (((val y).natAbs : Nat) : Int) = d * (4194304 * T) := by rw [Int.natAbs_of_nonneg (by omega), vy, QT]
  have hTT : 0 < T * T := Int.mul_pos hT hT
  obtain ⟨hf, b1, b2⟩ := right_between h hD (fun q' => by
      have : val x ≤ 0 := sx.1 (by simpa using q')
      exact Int.mul_nonpos_of_nonpos_of_nonneg this (by omega)) (fun q' => by
      have : 0 ≤ val x := sx.2 (by simpa using q')
      exact Int.mul_nonneg this (by omega)) R1 R2
    (by
      rw [eD, QT]
      refine Int.le_trans (b := lo * P * (16777216 * T)) ?_ (Int.mul_le_mul_of_nonneg_right h1 (by omega))
      rw [PT]
      have e : q * (4 * (4194304 * T)) * (d * (4194304 * T)) = q * (4 * d) * (17592186044416 * (T * T)) := by
        rw [ac1, l17]
      have e2 : lo * (1048576 * T) * (16777216 * T) = lo * (17592186044416 * (T * T)) := by
        rw [ac2, l18]
      rw [e, e2]
      exact mul_le_cancel (by omega) hq1)
    (by
      rw [eD]
      refine Int.le_trans (b := hi * P * (16777216 * T)) (Int.mul_le_mul_of_nonneg_right h2 (by omega)) ?_
      rw [PT]
      have e : ((q + 1) * 16777216 - 1) * T * (d * (4194304 * T)) = ((q + 1) * (4 * d) * 4194304 - d) * (4194304 * (T * T)) := by
        have : ((q + 1) * 16777216 - 1) * d = (q + 1) * (4 * d) * 4194304 - d := by
          rw [Int.sub_mul, Int.one_mul]
          have : (16777216 : Int) = 4 * 4194304 := by decide
          rw [this, ac4]
        rw [← this, ac3]
      have e2 : hi * (1048576 * T) * (16777216 * T) = hi * 4194304 * (4194304 * (T * T)) := by
        rw [ac2]
        have : (1048576 : Int) * 16777216 = 4194304 * 4194304 := by decide
        rw [this, ac5]
      rw [e, e2]
      refine mul_le_cancel (by omega) ?_
      have : hi + 1 ≤ (q + 1) * (4 * d) := by omega
      have := Int.mul_le_mul_of_nonneg_right this (show (0 : Int) ≤ 4194304 by decide)
      omega)
  refine ⟨hf, floor_between hf b1 ?_⟩
  rw [QT]
  refine Int.lt_of_le_of_lt b2 ?_
  have : (q + 1) * (4 * (4194304 * T)) = (q + 1) * 16777216 * T := by
    rw [ac6, l16]
  rw [this]
  exact Int.mul_lt_mul_of_pos_right (by omega) hT

theorem QP : Q = 4 * P := by rw [QT, PT]; omega
/-- the floor of n/4 by d/4 -/
theorem FQ.floorDiv {x y : UInt64} {n d : Int} (hx : FQ x n) (hy : FQ y d) (hd : 0 < d) (hd2 : d < 4194304) (hb : (n / d).natAbs < 2 ^ 28) :
    Fin' (div x y) ∧ PySem.Flt.toInt floorOf (div x y) = n / d := by
  have e : val x = 4 * n * P := by rw [hx.2, QP, ← Int.mul_assoc, Int.mul_comm n 4]
  have m1 := Int.mul_ediv_add_emod n d
  have m2 := Int.emod_nonneg n (Int.ne_of_gt hd)
  have m3 := Int.emod_lt_of_pos n hd
  refine floor_div (lo := 4 * n) (hi := 4 * n) hx.1 (by rw [e]; exact Int.le_refl _) (by rw [e]; exact Int.le_refl _) hy hd hd2 ?_ ?_ hb
  · rw [Int.mul_left_comm, Int.mul_comm (n / d)]; omega
  · rw [Int.mul_left_comm, Int.add_mul, Int.mul_comm (n / d)]; omega

/-- the floor of a quotient of two ints -/
theorem floor_ii {a b : Int} (hb : 0 < b) (hb2 : b < 1048576) (ha : a.natAbs < 2 ^ 28) :
    Fin' (ofFrac (decide (a < 0) != decide (b < 0)) a.natAbs b.natAbs) ∧ PySem.Flt.toInt floorOf (ofFrac (decide (a < 0) != decide (b < 0)) a.natAbs b.natAbs) = a / b := by
  have hT := T_pos
  have m1 := Int.mul_ediv_add_emod a b
  have m2 := Int.emod_nonneg a (Int.ne_of_gt hb)
  have m3 := Int.emod_lt_of_pos a hb
  have q1 : (a / b).natAbs ≤ a.natAbs := Int.natAbs_ediv_le_natAbs a b
  generalize a / b = q at *
  have hbN : 0 < b.natAbs := by omega
  have h : Right (ofFrac (decide (a < 0) != decide (b < 0)) a.natAbs b.natAbs) (decide (a < 0) != decide (b < 0)) (a.natAbs * 2 ^ 1074) b.natAbs := ofFrac_right hbN rfl hbN
  have e1 : a.natAbs * 2 ^ 1074 = (a * (16777216 * T)).natAbs := by rw [← pow_T, Int.natAbs_mul]; rfl
  rw [e1] at h
  have R1 : Rep (q * (4 * Q)) := by
    have : q * (4 * Q) = q * 2 ^ 1074 := by rw [Q4]
    rw [this]; exact rep_of (by omega) (by decide) (by decide)
  have R2 : Rep (((q + 1) * 16777216 - 1) * T) := rep_of (by omega) (by decide) (by decide)
  have eb : ((b.natAbs : Nat) : Int) = b := Int.natAbs_of_nonneg (by omega)
  have hbf : decide (b < 0) = false := decide_eq_false (by omega)
  obtain ⟨hf, b1, b2⟩ := right_between h hbN (fun q' => by
      rw [hbf] at q'
      have : a < 0 := by simpa using q'
      exact Int.mul_nonpos_of_nonpos_of_nonneg (by omega) (by omega)) (fun q' => by
      rw [hbf] at q'
      have : ¬ a < 0 := by simpa using q'
      exact Int.mul_nonneg (by omega) (by omega)) R1 R2
    (by
      rw [eb, QT]
      have e : q * (4 * (4194304 * T)) * b = (b * q) * (16777216 * T) := by
        rw [ac7, l16]
      rw [e]
      exact mul_le_cancel (by omega) (by omega))
    (by
      rw [eb]
      have e : ((q + 1) * 16777216 - 1) * T * b = ((b * q + b) * 16777216 - b) * T := by
        have : ((q + 1) * 16777216 - 1) * b = (b * q + b) * 16777216 - b := by
          rw [Int.sub_mul, Int.one_mul, Int.mul_right_comm, Int.add_mul, Int.one_mul, Int.mul_comm q b]
        rw [← this, ac8]
      have e2 : a * (16777216 * T) = (a * 16777216) * T := by rw [Int.mul_assoc]
      rw [e, e2]
      exact mul_le_cancel hT (by omega))
  refine ⟨hf, floor_between hf b1 ?_⟩
  rw [QT]
  refine Int.lt_of_le_of_lt b2 ?_
  have : (q + 1) * (4 * (4194304 * T)) = (q + 1) * 16777216 * T := by
    rw [ac6, l16]
  rw [this]
  exact Int.mul_lt_mul_of_pos_right (by omega) hT

theorem Fin'.finite {x : UInt64} (h : Fin' x) : isFinite x = true := by obtain ⟨a, m, e, hd⟩ := h; unfold isFinite; rw [hd]
theorem Fin'.notNaN {x : UInt64} (h : Fin' x) : isNaN x = false := by obtain ⟨a, m, e, hd⟩ := h; unfold isNaN; rw [hd]
theorem Fin'.notInf {x : UInt64} (h : Fin' x) : isInf x = false := by obtain ⟨a, m, e, hd⟩ := h; unfold isInf; rw [hd]

theorem isZero_val {x : UInt64} (h : Fin' x) : isZero x = decide (val x = 0) := by
  obtain ⟨a, m, e, hd⟩ := h
  unfold isZero
  rw [hd, val_eq hd]
  have hp : 0 < 2 ^ (e + 1074).toNat := Nat.two_pow_pos _
  cases m with
  | zero => cases a <;> simp [sgn]
  | succ k =>
    have hn : (k + 1) * 2 ^ (e + 1074).toNat ≠ 0 := by
      have := Nat.mul_pos (Nat.succ_pos k) hp
      exact Nat.ne_of_gt this
    symm
    refine decide_eq_false fun c => hn ?_
    unfold sgn at c
    generalize (k + 1) * 2 ^ (e + 1074).toNat = z at *
    cases a <;> simp at c <;> exact c

theorem ofBin_right (neg : Bool) (m : Nat) (e : Int) (he : -1074 ≤ e) : Right (ofBin neg m e) neg (m * 2 ^ (e + 1074).toNat) 1 := by
  unfold ofBin
  refine ofFrac_right (shift_pos _ _ _ (by decide)) ?_ (by decide)
  have := shift_one m e 1074 (by omega)
  rw [Nat.mul_one]
  exact this

theorem natMod_mul (p q c : Nat) : p % q * c = (p * c) % (q * c) := (Nat.mul_mod_mul_right c p q).symm

theorem FQ.fmod {x y : UInt64} {n d : Int} (hx : FQ x n) (hy : FQ y d) (hd : 0 < d) (hd2 : d < 2 ^ 53) : FQ (Float64.fmod x y) (if n < 0 then -((-n) % d) else n % d) := by
  obtain ⟨⟨a, m, e, dx⟩, vx⟩ := hx
  obtain ⟨⟨b, k, f, dy⟩, vy⟩ := hy
  have ge := decode_ge dx
  have gf := decode_ge dy
  have hQ := Q_pos
  have hvy : 0 < val y := by rw [vy]; exact Int.mul_pos hd Q_pos
  have hk : k ≠ 0 := by
    intro e
    subst e
    rw [val_eq dy] at hvy
    cases b <;> simp [sgn] at hvy
  have hx' : Float64.fmod x y = ofBin a ((m * 2 ^ (e - min e f).toNat) % (k * 2 ^ (f - min e f).toNat)) (min e f) := by
    unfold Float64.fmod
    rw [dx, dy]
    simp only
    rw [if_neg (by simpa using hk)]
    simp only [align, sgn, Bool.false_eq_true, if_false, Int.toNat_natCast]
  rw [hx']
  have h := ofBin_right a ((m * 2 ^ (e - min e f).toNat) % (k * 2 ^ (f - min e f).toNat)) (min e f) (by omega)
  have e1 : (e - min e f).toNat + (min e f + 1074).toNat = (e + 1074).toNat := by omega
  have e2 : (f - min e f).toNat + (min e f + 1074).toNat = (f + 1074).toNat := by omega
  rw [natMod_mul, Nat.mul_assoc, ← Nat.pow_add, e1, Nat.mul_assoc, ← Nat.pow_add, e2, ← val_natAbs dx, ← val_natAbs dy, vx, vy] at h
  have sx := sgn_sign dx
  rw [vx] at sx
  have eD : ((d * Q).natAbs : Int) = d * Q := Int.natAbs_of_nonneg (Int.mul_nonneg (by omega) (by omega))
  have m2 := Int.emod_nonneg (-n) (Int.ne_of_gt hd)
  have m3 := Int.emod_lt_of_pos (-n) hd
  have m4 := Int.emod_nonneg n (Int.ne_of_gt hd)
  have m5 := Int.emod_lt_of_pos n hd
  have hmul : ∀ z : Int, (z * Q) % (d * Q) = (z % d) * Q := fun z => mod_scale z d Q hQ hd
  by_cases hn : n < 0
  · rw [if_pos hn]
    have hneg : n * Q < 0 := Int.mul_neg_of_neg_of_pos hn hQ
    have ha : a = true := by
      cases a with
      | true => rfl
      | false => have := sx.2 rfl; omega
    subst ha
    have en : ((n * Q).natAbs : Int) = (-n) * Q := by rw [Int.ofNat_natAbs_of_nonpos (by omega), Int.neg_mul]
    have ez : (n * Q).natAbs % (d * Q).natAbs = (-((-n) % d) * Q).natAbs := by
      rw [Int.neg_mul, Int.natAbs_neg]
      have : (((n * Q).natAbs % (d * Q).natAbs : Nat) : Int) = ((((-n) % d) * Q).natAbs : Int) := by
        rw [Int.natCast_emod, en, eD, hmul, Int.natAbs_of_nonneg (Int.mul_nonneg m2 (by omega))]
      exact Int.ofNat.inj this
    rw [ez] at h
    exact fq_of_right h (by decide) (fun _ => by rw [Int.neg_mul]; have := Int.mul_nonneg m2 (show 0 ≤ Q by omega); omega) (fun q => by cases q) (by simp) (by omega)
  · rw [if_neg hn]
    have en : ((n * Q).natAbs : Int) = n * Q := Int.natAbs_of_nonneg (Int.mul_nonneg (by omega) (by omega))
    have ez : (n * Q).natAbs % (d * Q).natAbs = ((n % d) * Q).natAbs := by
      have : (((n * Q).natAbs % (d * Q).natAbs : Nat) : Int) = (((n % d) * Q).natAbs : Int) := by
        rw [Int.natCast_emod, en, eD, hmul, Int.natAbs_of_nonneg (Int.mul_nonneg m4 (by omega))]
      exact Int.ofNat.inj this
    rw [ez] at h
    have hz := Int.mul_nonneg m4 (show 0 ≤ Q by omega)
    refine fq_of_right h (by decide) (fun q => ?_) (fun _ => hz) (by simp) (by omega)
    have h1 := sx.1 q
    have h0 := Int.mul_nonneg (show 0 ≤ n by omega) (show 0 ≤ Q by omega)
    have : n * Q = 0 := by omega
    rcases Int.mul_eq_zero.mp this with c | c
    · subst c; simp
    · omega

theorem fq_zero (b : Bool) : FQ (zero b) 0 := ⟨(val_zero b).1, by rw [(val_zero b).2, Int.zero_mul]⟩
theorem copysign_zero {y : UInt64} : copysign (zero false) y = zero (signBit y) := by
  unfold copysign
  rw [if_neg (by with_unfolding_all decide)]
  unfold zero
  congr 1
theorem FQ.val0 {x : UInt64} {n : Int} (h : FQ x n) : val x = 0 ↔ n = 0 := by
  rw [h.2, Int.mul_eq_zero]
  have := Q_pos
  constructor
  · intro c; rcases c with c | c <;> omega
  · exact .inl
theorem FQ.mod {x y : UInt64} {n d : Int} (hx : FQ x n) (hy : FQ y d) (hd : 0 < d) (hd2 : d < 2 ^ 53) : FQ (divmod x y).2 (n % d) := by
  have hm := FQ.fmod hx hy hd hd2
  have m2 := Int.emod_nonneg (-n) (Int.ne_of_gt hd)
  have m3 := Int.emod_lt_of_pos (-n) hd
  have m4 := Int.emod_nonneg n (Int.ne_of_gt hd)
  have m5 := Int.emod_lt_of_pos n hd
  have e : (divmod x y).2 = (if isZero (Float64.fmod x y) then copysign (zero false) y else if (Float64.lt y (zero false) != Float64.lt (Float64.fmod x y) (zero false)) then Float64.add (Float64.fmod x y) y else Float64.fmod x y) := by
    unfold divmod
    simp only
    split
    · rfl
    · split <;> rfl
  rw [e]
  have hy0 : Float64.lt y (zero false) = false := by
    unfold Float64.lt
    rw [FQ.lt hy (fq_zero false)]
    exact decide_eq_false (by omega)
  have hz := isZero_val hm.1
  generalize hr : (if n < 0 then -((-n) % d) else n % d) = r at *
  split
  · rename_i c
    rw [hz] at c
    have c0 : r = 0 := hm.val0.mp (of_decide_eq_true c)
    rw [copysign_zero]
    have : n % d = 0 := by
      split at hr
      · have : (-n) % d = 0 := by omega
        have := Int.dvd_of_emod_eq_zero this
        exact Int.emod_eq_zero_of_dvd (Int.dvd_neg.mp this)
      · omega
    rw [this]
    exact fq_zero _
  · rename_i c
    rw [hz] at c
    have c0 : r ≠ 0 := fun q => c (decide_eq_true (hm.val0.mpr q))
    have hl : Float64.lt (Float64.fmod x y) (zero false) = decide (r < 0) := by
      unfold Float64.lt
      exact FQ.lt hm (fq_zero false)
    rw [hy0, hl]
    split at hr
    · rename_i hn
      have rneg : r < 0 := by omega
      rw [decide_eq_true rneg, if_pos (by decide)]
      have key : n % d = r + d := by
        have e1 : n % d = (r + d) % d := by
          rw [← hr, Int.add_emod_right]
          have : n = -(-n) := by omega
          conv => lhs; rw [this]
          have := Int.mul_ediv_add_emod (-n) d
          have : -(-n) = -((-n) % d) + d * (-((-n) / d)) := by rw [Int.mul_neg]; omega
          conv => lhs; rw [this]
          rw [Int.add_mul_emod_self_left]
        rw [e1, Int.emod_eq_of_lt (by omega) (by omega)]
      rw [key]
      exact FQ.add hm hy (by omega)
    · rename_i hn
      rw [decide_eq_false (by omega)]
      rw [if_neg (by decide), hr]
      exact hm

end
open PySem PySem.W PyProof.Rows
section
set_option maxRecDepth 100000 in
set_option maxHeartbeats 8000000 in
open_top hd for PySem.Challenge.rw_ad5027_01

end
open PySem PySem.W PyProof.Rows PySem.Calls
set_option maxRecDepth 100000
theorem off_SP : True := by
  w_top off
  trivial
section
open PySem.Float64 (decode val)

/-- what a call of the def at f gives back, from any frame of a def: a value that Post holds of; the ledger as it was -/
def SpecV (w : World) (p : Program) (loose : List Str) (mean : ExcName → Option Value) (mg mb : Str → Option Value) (k : Nat) (f : Addr) (vs : List Value) (Post : Value → Prop) : Prop :=
  ∀ (dp un : Nat) (gd : Option (List Code)) (cn : Str) (cs : Scope) (a : Addr) (ccd : Value) (cl : List (Str × Addr)) (outer : List Env) (A₀ : Around) (base h₀ : Heap) (L : Addr) (m : Str → Option Value) (news : List (Addr × Obj)) (s : Shared) (Q E : Value → Shared → Prop),
    Below A₀ base outer h₀ → Fr h₀ L s.heap m → (hd.heap_39 w.params).In h₀ → News h₀ L s.heap news → Top p loose mean mg mb h₀ → cs.kind = .function → dp + k < recursionLimit → un + 8 * k < cLine →
    (∀ (r : Value) (h' : Heap) (tk' : Nat), Post r → Fr h₀ L h' m → News h₀ L h' news → Q r { s with heap := h', toks := tk' }) →
    wpAny (model PySem.Challenge.rw_ad5027_01.row.prog w) (ktrTop dp un gd cn cs L a ccd cl outer) (call (.ref f) vs) Q E s

theorem use_V {w : World} {p : Program} {loose : List Str} {mean : ExcName → Option Value} {mg mb : Str → Option Value} {k : Nat} {f : Addr} {vs : List Value} {Post : Value → Prop} {dp un : Nat} {gd : Option (List Code)} {cn : Str} {cs : Scope} {a : Addr} {ccd : Value} {cl : List (Str × Addr)} {outer : List Env} {A₀ : Around} {base h₀ : Heap} {L : Addr} {m : Str → Option Value} {news : List (Addr × Obj)} {s : Shared} {Q E : Value → Shared → Prop}
    (C : SpecV w p loose mean mg mb k f vs Post) (B : Below A₀ base outer h₀) (F : Fr h₀ L s.heap m) (X : (hd.heap_39 w.params).In h₀) (N : News h₀ L s.heap news) (T : Top p loose mean mg mb h₀) (hk : cs.kind = .function) (hd : dp + k < recursionLimit) (hu : un + 8 * k < cLine)
    (ret : ∀ (r : Value) (h' : Heap) (tk' : Nat), Post r → Fr h₀ L h' m → News h₀ L h' news → Q r { s with heap := h', toks := tk' }) :
    wpAny (model PySem.Challenge.rw_ad5027_01.row.prog w) (ktrTop dp un gd cn cs L a ccd cl outer) (call (.ref f) vs) Q E s := C _ _ _ _ _ _ _ _ _ _ _ _ _ _ _ _ _ _ B F X N T hk hd hu ret
theorem retV {h₀ h' : Heap} {L : Addr} {m : Str → Option Value} {news : List (Addr × Obj)} {s : Shared} {Q : Value → Shared → Prop} {Post : Value → Prop} {r : Value} {tk' : Nat}
    (hret : ∀ (r : Value) (h' : Heap) (tk' : Nat), Post r → Fr h₀ L h' m → News h₀ L h' news → Q r { s with heap := h', toks := tk' }) (e : Post r) (F : Fr h₀ L h' m) (N : News h₀ L h' news) : Q r { s with heap := h', toks := tk' } := hret r h' tk' e F N

/-- as SpecV, but what comes back is a new object that Post holds of, newest on the ledger -/
def SpecT (w : World) (p : Program) (loose : List Str) (mean : ExcName → Option Value) (mg mb : Str → Option Value) (k : Nat) (f : Addr) (vs : List Value) (Post : Obj → Prop) : Prop :=
  ∀ (dp un : Nat) (gd : Option (List Code)) (cn : Str) (cs : Scope) (a : Addr) (ccd : Value) (cl : List (Str × Addr)) (outer : List Env) (A₀ : Around) (base h₀ : Heap) (L : Addr) (m : Str → Option Value) (news : List (Addr × Obj)) (s : Shared) (Q E : Value → Shared → Prop),
    Below A₀ base outer h₀ → Fr h₀ L s.heap m → (hd.heap_39 w.params).In h₀ → News h₀ L s.heap news → Top p loose mean mg mb h₀ → cs.kind = .function → dp + k < recursionLimit → un + 8 * k < cLine →
    (∀ (x : Addr) (o : Obj) (h' : Heap) (tk' : Nat), Post o → Fr h₀ L h' m → News h₀ L h' ((x, o) :: news) → (∀ q ∈ news, q.1 < x) → Q (.ref x) { s with heap := h', toks := tk' }) →
    wpAny (model PySem.Challenge.rw_ad5027_01.row.prog w) (ktrTop dp un gd cn cs L a ccd cl outer) (call (.ref f) vs) Q E s
theorem use_T {w : World} {p : Program} {loose : List Str} {mean : ExcName → Option Value} {mg mb : Str → Option Value} {k : Nat} {f : Addr} {vs : List Value} {Post : Obj → Prop} {dp un : Nat} {gd : Option (List Code)} {cn : Str} {cs : Scope} {a : Addr} {ccd : Value} {cl : List (Str × Addr)} {outer : List Env} {A₀ : Around} {base h₀ : Heap} {L : Addr} {m : Str → Option Value} {news : List (Addr × Obj)} {s : Shared} {Q E : Value → Shared → Prop}
    (C : SpecT w p loose mean mg mb k f vs Post) (B : Below A₀ base outer h₀) (F : Fr h₀ L s.heap m) (X : (hd.heap_39 w.params).In h₀) (N : News h₀ L s.heap news) (T : Top p loose mean mg mb h₀) (hk : cs.kind = .function) (hd : dp + k < recursionLimit) (hu : un + 8 * k < cLine)
    (ret : ∀ (x : Addr) (o : Obj) (h' : Heap) (tk' : Nat), Post o → Fr h₀ L h' m → News h₀ L h' ((x, o) :: news) → (∀ q ∈ news, q.1 < x) → Q (.ref x) { s with heap := h', toks := tk' }) :
    wpAny (model PySem.Challenge.rw_ad5027_01.row.prog w) (ktrTop dp un gd cn cs L a ccd cl outer) (call (.ref f) vs) Q E s := C _ _ _ _ _ _ _ _ _ _ _ _ _ _ _ _ _ _ B F X N T hk hd hu ret
theorem retT {h₀ h' : Heap} {L : Addr} {m : Str → Option Value} {news : List (Addr × Obj)} {s : Shared} {Q : Value → Shared → Prop} {Post : Obj → Prop} {x : Addr} {o : Obj} {tk' : Nat}
    (hret : ∀ (x : Addr) (o : Obj) (h' : Heap) (tk' : Nat), Post o → Fr h₀ L h' m → News h₀ L h' ((x, o) :: news) → (∀ q ∈ news, q.1 < x) → Q (.ref x) { s with heap := h', toks := tk' }) (e : Post o) (F : Fr h₀ L h' m) (N : News h₀ L h' ((x, o) :: news)) (l : ∀ q ∈ news, q.1 < x) : Q (.ref x) { s with heap := h', toks := tk' } := hret x o h' tk' e F N l
def IsPair (a b : Int) (o : Obj) : Prop := ∃ t u, o = { cls := .type "tuple", data := .seq #[.int a t, .int b u] }
def IsTriple (a b c : Int) (o : Obj) : Prop := ∃ t u v, o = { cls := .type "tuple", data := .seq #[.int a t, .int b u, .int c v] }

def leapB (y : Int) : Bool := decide (y % 4 = 0) && (!decide (y % 100 = 0) || decide (y % 400 = 0))
def mlen (lp : Bool) (m : Int) : Int := if m = 2 then (if lp then 29 else 28) else if m = 4 ∨ m = 6 ∨ m = 9 ∨ m = 11 then 30 else 31
def cumF (lp : Bool) (m : Int) : Int := (367 * m - 362) / 12 + (if m ≤ 2 then 0 else if lp then -1 else -2)
def dby (y : Int) : Int := 365 * (y - 1) + (y - 1) / 4 - (y - 1) / 100 + (y - 1) / 400
theorem dby_b {y : Int} (h1 : -1100000 ≤ y) (h2 : y ≤ 1100000) : -410000000 ≤ dby y ∧ dby y ≤ 410000000 := by unfold dby; omega
theorem cumF_b {lp : Bool} {m : Int} (h1 : 1 ≤ m) (h2 : m ≤ 12) : 0 ≤ cumF lp m ∧ cumF lp m ≤ 336 := by
  unfold cumF
  (repeat' split) <;> omega
theorem cumF_1 (lp : Bool) : cumF lp 1 = 0 := by simp [cumF]
theorem leapB_t {y : Int} (h : leapB y = true) : y % 4 = 0 ∧ (y % 100 ≠ 0 ∨ y % 400 = 0) := by
  simpa [leapB] using h
theorem leapB_f {y : Int} (h : leapB y = false) : y % 4 ≠ 0 ∨ (y % 100 = 0 ∧ y % 400 ≠ 0) := by
  unfold leapB at h
  by_cases h4 : y % 4 = 0
  · right; simp [h4] at h; exact h
  · exact .inl h4

end
set_option maxRecDepth 100000
theorem off_RU : True := by
  w_top off
  trivial
section
open PySem.Float64 (decode val)

/-- x lies between lo / 16 and hi / 16 -/
def FB (x : UInt64) (lo hi : Int) : Prop := Fin' x ∧ lo * P ≤ val x ∧ val x ≤ hi * P
/-- x is finite and its floor is k -/
def FF (x : UInt64) (k : Int) : Prop := Fin' x ∧ PySem.Flt.toInt Float64.floorOf x = k

theorem P_pos : 0 < P := by unfold P; exact Int.pow_pos (by decide)
theorem rep_P {n : Int} (hn : n.natAbs < 2 ^ 53) : Rep (n * P) := rep_of hn (by decide) (by decide)
theorem FQ.fb {x : UInt64} {n : Int} (h : FQ x n) : FB x (4 * n) (4 * n) := by
  have e : val x = 4 * n * P := by rw [h.2, QP, ← Int.mul_assoc, Int.mul_comm n 4]
  exact ⟨h.1, by rw [e]; exact Int.le_refl _, by rw [e]; exact Int.le_refl _⟩
theorem FB.add {x y : UInt64} {lo hi n : Int} (hx : FB x lo hi) (hy : FQ y n) (h1 : (lo + 4 * n).natAbs < 2 ^ 53) (h2 : (hi + 4 * n).natAbs < 2 ^ 53) : FB (Float64.add x y) (lo + 4 * n) (hi + 4 * n) := by
  obtain ⟨⟨_, _, _, dx⟩, l, u⟩ := hx
  have ey : val y = 4 * n * P := by rw [hy.2, QP, ← Int.mul_assoc, Int.mul_comm n 4]
  obtain ⟨⟨_, _, _, dy⟩, _⟩ := hy
  obtain ⟨k0, k1⟩ := Float64.add_right dx dy
  have b1 : (lo + 4 * n) * P ≤ val x + val y := by rw [Int.add_mul, ey]; omega
  have b2 : val x + val y ≤ (hi + 4 * n) * P := by rw [Int.add_mul, ey]; omega
  by_cases c : val x + val y = 0
  · rw [k0 c]
    rw [c] at b1 b2
    exact ⟨(val_zero _).1, by rw [(val_zero _).2]; exact b1, by rw [(val_zero _).2]; exact b2⟩
  · obtain ⟨f, a, b⟩ := right_between (k1 c) (by decide) (fun q => by have := of_decide_eq_true q; omega) (fun q => by have := of_decide_eq_false q; omega) (rep_P h1) (rep_P h2)
      (by have o : ((1 : Nat) : Int) = 1 := rfl
          rw [o, Int.mul_one]; exact b1) (by have o : ((1 : Nat) : Int) = 1 := rfl
                                             rw [o, Int.mul_one]; exact b2)
    exact ⟨f, a, b⟩
theorem FB.floor {x : UInt64} {lo hi k : Int} (hx : FB x lo hi) (h1 : lo / 16 = k) (h2 : hi / 16 = k) : FF x k := by
  refine ⟨hx.1, floor_between hx.1 ?_ ?_⟩
  · refine Int.le_trans ?_ hx.2.1
    rw [QP, ← Int.mul_assoc 4, ← Int.mul_assoc]
    exact mul_le_cancel P_pos (by omega)
  · refine Int.lt_of_le_of_lt hx.2.2 ?_
    rw [QP, ← Int.mul_assoc 4, ← Int.mul_assoc]
    exact Int.mul_lt_mul_of_pos_right (by omega) P_pos
theorem FQ.ff {x : UInt64} {n : Int} (h : FQ x n) : FF x (n / 4) := ⟨h.1, h.floor⟩
/-- the quotient of two ints lies in 16ths as its floor says -/
theorem fb_ii {a b : Int} (hb : 0 < b) (hb2 : b ≤ 16) (ha : a.natAbs < 2 ^ 28) :
    FB (Float64.ofFrac (decide (a < 0) != decide (b < 0)) a.natAbs b.natAbs) (16 * (a / b)) (16 * (a / b) + 15) := by
  have m1 := Int.mul_ediv_add_emod a b
  have m2 := Int.emod_nonneg a (Int.ne_of_gt hb)
  have m3 := Int.emod_lt_of_pos a hb
  have q1 : (a / b).natAbs ≤ a.natAbs := Int.natAbs_ediv_le_natAbs a b
  generalize a / b = q at *
  have hbN : 0 < b.natAbs := by omega
  have h : Float64.Right (Float64.ofFrac (decide (a < 0) != decide (b < 0)) a.natAbs b.natAbs) (decide (a < 0) != decide (b < 0)) (a.natAbs * 2 ^ 1074) b.natAbs := Float64.ofFrac_right hbN rfl hbN
  have e0 : ((2 ^ 1074 : Nat) : Int) = 16 * P := by rw [pow_T, PT]; omega
  have e1 : a.natAbs * 2 ^ 1074 = (a * (16 * P)).natAbs := by rw [← e0, Int.natAbs_mul]; rfl
  rw [e1] at h
  have hP := P_pos
  have eb : ((b.natAbs : Nat) : Int) = b := Int.natAbs_of_nonneg (by omega)
  have hbf : decide (b < 0) = false := decide_eq_false (by omega)
  obtain ⟨hf, b1, b2⟩ := right_between h hbN (fun q' => by
      rw [hbf] at q'
      have : a < 0 := by simpa using q'
      exact Int.mul_nonpos_of_nonpos_of_nonneg (by omega) (by omega)) (fun q' => by
      rw [hbf] at q'
      have : ¬ a < 0 := by simpa using q'
      exact Int.mul_nonneg (by omega) (by omega)) (rep_P (n := 16 * q) (by omega)) (rep_P (n := 16 * q + 15) (by omega))
    (by
      rw [eb, Int.mul_right_comm, ← Int.mul_assoc]
      refine mul_le_cancel hP ?_
      rw [Int.mul_assoc, Int.mul_comm q b]; omega)
    (by
      rw [eb, Int.mul_right_comm, ← Int.mul_assoc]
      refine mul_le_cancel hP ?_
      rw [Int.add_mul, Int.mul_assoc, Int.mul_comm q b]; omega)
  exact ⟨hf, b1, b2⟩
theorem ff_ii {a b : Int} (hb : 0 < b) (hb2 : b < 1048576) (ha : a.natAbs < 2 ^ 28) : FF (Float64.ofFrac (decide (a < 0) != decide (b < 0)) a.natAbs b.natAbs) (a / b) := floor_ii hb hb2 ha
theorem FB.ffDiv {x y : UInt64} {lo hi d q : Int} (hx : FB x lo hi) (hy : FQ y d) (hd : 0 < d) (hd2 : d < 4194304)
    (hq1 : q * (4 * d) ≤ lo) (hq2 : hi < (q + 1) * (4 * d)) (hb : q.natAbs < 2 ^ 28) : FF (Float64.div x y) q := floor_div hx.1 hx.2.1 hx.2.2 hy hd hd2 hq1 hq2 hb

section
variable {prog : Program} {w : World} {A : Around} {E : Value → Shared → Prop} {s : Shared} {Q : Value → Shared → Prop} {t u : Tok}
theorem r_mod {a k : Int} (hk : 0 < k) (h : Q (.int (a % k) s.toks) { s with toks := s.toks + 1 }) : wpAny (model prog w) A (binaryOp .Mod (.int a t) (.int k u)) Q E s :=
  mod_int' (by omega) (by rw [Int.fmod_eq_emod_of_nonneg _ (by omega)]; exact h)
theorem r_fdiv {a k : Int} (hk : 0 < k) (hp : Builtin.divisionGoesByPylong a k = false) (h : Q (.int (a / k) s.toks) { s with toks := s.toks + 1 }) : wpAny (model prog w) A (binaryOp .FloorDiv (.int a t) (.int k u)) Q E s :=
  floordiv_int (by omega) (by rw [Int.fdiv_eq_ediv_of_nonneg _ (by omega)]; exact h) (Or.inl hp)
theorem r_add_fi {x : UInt64} {a n : Int} (hx : FQ x a) (hn : n.natAbs < 2 ^ 51) (hb : (a + 4 * n).natAbs < 2 ^ 53) (h : ∀ r, FQ r (a + 4 * n) → Q (.float r s.toks) { s with toks := s.toks + 1 }) : wpAny (model prog w) A (binaryOp .Add (.float x t) (.int n u)) Q E s :=
  add_fi_fits (Nat.lt_of_lt_of_le hn (Nat.pow_le_pow_right (by decide) (by decide))) (h _ (hx.add (FQ.ofInt hn) hb))
theorem r_add_if {x : UInt64} {a n : Int} (hx : FQ x a) (hn : n.natAbs < 2 ^ 51) (hb : (a + 4 * n).natAbs < 2 ^ 53) (h : ∀ r, FQ r (a + 4 * n) → Q (.float r s.toks) { s with toks := s.toks + 1 }) : wpAny (model prog w) A (binaryOp .Add (.int n u) (.float x t)) Q E s :=
  add_if_fits (Nat.lt_of_lt_of_le hn (Nat.pow_le_pow_right (by decide) (by decide))) (h _ (by rw [Int.add_comm]; exact (FQ.ofInt hn).add hx (by rw [Int.add_comm]; exact hb)))
theorem r_sub_fi {x : UInt64} {a n : Int} (hx : FQ x a) (hn : n.natAbs < 2 ^ 51) (hb : (a - 4 * n).natAbs < 2 ^ 53) (h : ∀ r, FQ r (a - 4 * n) → Q (.float r s.toks) { s with toks := s.toks + 1 }) : wpAny (model prog w) A (binaryOp .Sub (.float x t) (.int n u)) Q E s :=
  sub_fi_fits (Nat.lt_of_lt_of_le hn (Nat.pow_le_pow_right (by decide) (by decide))) (h _ (hx.sub (FQ.ofInt hn) hb))
theorem r_sub_if {x : UInt64} {a n : Int} (hx : FQ x a) (hn : n.natAbs < 2 ^ 51) (hb : (4 * n - a).natAbs < 2 ^ 53) (h : ∀ r, FQ r (4 * n - a) → Q (.float r s.toks) { s with toks := s.toks + 1 }) : wpAny (model prog w) A (binaryOp .Sub (.int n u) (.float x t)) Q E s :=
  sub_if_fits (Nat.lt_of_lt_of_le hn (Nat.pow_le_pow_right (by decide) (by decide))) (h _ ((FQ.ofInt hn).sub hx hb))
theorem r_add_ff {x y : UInt64} {a b : Int} (hx : FQ x a) (hy : FQ y b) (hb : (a + b).natAbs < 2 ^ 53) (h : ∀ r, FQ r (a + b) → Q (.float r s.toks) { s with toks := s.toks + 1 }) : wpAny (model prog w) A (binaryOp .Add (.float x t) (.float y u)) Q E s :=
  add_float (h _ (hx.add hy hb))
theorem r_sub_ff {x y : UInt64} {a b : Int} (hx : FQ x a) (hy : FQ y b) (hb : (a - b).natAbs < 2 ^ 53) (h : ∀ r, FQ r (a - b) → Q (.float r s.toks) { s with toks := s.toks + 1 }) : wpAny (model prog w) A (binaryOp .Sub (.float x t) (.float y u)) Q E s :=
  sub_float (h _ (hx.sub hy hb))
theorem r_mul_fi {x : UInt64} {a n : Int} (hx : FQ x a) (hn : n.natAbs < 2 ^ 51) (hb : (a * n).natAbs < 2 ^ 53) (h : ∀ r, FQ r (a * n) → Q (.float r s.toks) { s with toks := s.toks + 1 }) : wpAny (model prog w) A (binaryOp .Mult (.float x t) (.int n u)) Q E s :=
  mul_fi_fits (Nat.lt_of_lt_of_le hn (Nat.pow_le_pow_right (by decide) (by decide))) (h _ (hx.mul4 (FQ.ofInt hn) hb))
theorem r_mod_fi {x : UInt64} {a n : Int} (hx : FQ x a) (hn0 : 0 < n) (hn : n < 2 ^ 50) (h : ∀ r, FQ r (a % (4 * n)) → Q (.float r s.toks) { s with toks := s.toks + 1 }) : wpAny (model prog w) A (binaryOp .Mod (.float x t) (.int n u)) Q E s := by
  have hy := FQ.ofInt (i := n) (by omega)
  have hi : ¬ Float64.isInf (Float64.ofInt n) = true := by rw [hy.notInf]; decide
  have hz : ¬ Float64.isZero (Float64.ofInt n) = true := by
    rw [isZero_val hy.1]
    intro c
    have := hy.val0.mp (of_decide_eq_true c)
    omega
  exact AutoFloatOps.mod_fi_2 hi hz (h _ (hx.mod hy (by omega) (by omega)))
theorem r_div_fi {x : UInt64} {a n : Int} (hx : FQ x a) (hn0 : 0 < n) (hn : n < 1048576) (hb : (a / (4 * n)).natAbs < 2 ^ 28) (h : ∀ r, FF r (a / (4 * n)) → Q (.float r s.toks) { s with toks := s.toks + 1 }) : wpAny (model prog w) A (binaryOp .Div (.float x t) (.int n u)) Q E s := by
  have hy := FQ.ofInt (i := n) (by omega)
  have hi : ¬ Float64.isInf (Float64.ofInt n) = true := by rw [hy.notInf]; decide
  have hz : ¬ Float64.isZero (Float64.ofInt n) = true := by
    rw [isZero_val hy.1]
    intro c
    have := hy.val0.mp (of_decide_eq_true c)
    omega
  exact AutoFloatOps.truediv_fi_2 hi hz (h _ (hx.floorDiv hy (by omega) (by omega) hb))
theorem r_div_ii {a b : Int} (hA : A.handled = none) (hb : 0 < b) (hb2 : b < 1048576) (ha : a.natAbs < 2 ^ 28) (h : ∀ r, FF r (a / b) → Q (.float r s.toks) { s with toks := s.toks + 1 }) : wpAny (model prog w) A (binaryOp .Div (.int a t) (.int b u)) Q E s :=
  PySem.Flt.div_ii hA (fun e => absurd e (by omega)) (fun _ hi => absurd hi (by rw [(ff_ii hb hb2 ha).1.notInf]; decide)) fun _ _ => h _ (ff_ii hb hb2 ha)
theorem r_div_ii16 {a b : Int} (hA : A.handled = none) (hb : 0 < b) (hb2 : b ≤ 16) (ha : a.natAbs < 2 ^ 28) (h : ∀ r, FF r (a / b) → FB r (16 * (a / b)) (16 * (a / b) + 15) → Q (.float r s.toks) { s with toks := s.toks + 1 }) : wpAny (model prog w) A (binaryOp .Div (.int a t) (.int b u)) Q E s :=
  PySem.Flt.div_ii hA (fun e => absurd e (by omega)) (fun _ hi => absurd hi (by rw [(ff_ii hb (by omega) ha).1.notInf]; decide)) fun _ _ => h _ (ff_ii hb (by omega) ha) (fb_ii hb hb2 ha)
theorem r_add_fi_b {x : UInt64} {lo hi n : Int} (hx : FB x lo hi) (hn : n.natAbs < 2 ^ 51) (h1 : (lo + 4 * (4 * n)).natAbs < 2 ^ 53) (h2 : (hi + 4 * (4 * n)).natAbs < 2 ^ 53) (h : ∀ r, FB r (lo + 4 * (4 * n)) (hi + 4 * (4 * n)) → Q (.float r s.toks) { s with toks := s.toks + 1 }) : wpAny (model prog w) A (binaryOp .Add (.float x t) (.int n u)) Q E s :=
  add_fi_fits (Nat.lt_of_lt_of_le hn (Nat.pow_le_pow_right (by decide) (by decide))) (h _ (hx.add (FQ.ofInt hn) h1 h2))
theorem r_floor {x : UInt64} {k : Int} (hA : A.handled = none) (hx : FF x k) (h : Q (.int k s.toks) { s with toks := s.toks + 1 }) : wpAny (model prog w) A (call (.builtin "math.floor") [.float x t]) Q E s :=
  PySem.Flt.call_floor_float hA (fun c => absurd c (by rw [hx.1.notNaN]; decide)) (fun c => absurd c (by rw [hx.1.notInf]; decide)) fun _ => by rw [hx.2]; exact h
theorem r_int {x : UInt64} {n : Int} (hA : A.handled = none) (hx : FQ x (4 * n)) (h : Q (.int n s.toks) { s with toks := s.toks + 1 }) : wpAny (model prog w) A (call (.type "int") [.float x t]) Q E s :=
  PySem.Flt.call_int_float3 hA (fun c => absurd c (by rw [hx.notNaN]; decide)) (fun c => absurd c (by rw [hx.notInf]; decide)) fun _ => by rw [hx.trunc]; exact h
theorem FQ.toFF {x : UInt64} {n : Int} (h : FQ x n) : FF x (n / 4) := h.ff
theorem FB.toFF {x : UInt64} {lo hi : Int} (h : FB x lo hi) (e : hi / 16 = lo / 16) : FF x (lo / 16) := h.floor rfl e
theorem r_eq_ff {x y : UInt64} {a b : Int} (hx : FQ x a) (hy : FQ y b) (h : Q (.bool (decide (a = b))) s) : wpAny (model prog w) A (compareOp .Eq (.float x t) (.float y u)) Q E s :=
  AutoFloatOps.eq_0 (by rw [hx.eq hy]; exact h)
theorem r_ne_ff {x y : UInt64} {a b : Int} (hx : FQ x a) (hy : FQ y b) (h : Q (.bool (!decide (a = b))) s) : wpAny (model prog w) A (compareOp .NotEq (.float x t) (.float y u)) Q E s :=
  AutoFloatOps.ne_0 (by show Q (.bool (!(Float64.cmp x y == some .eq))) s; rw [hx.eq hy]; exact h)
theorem r_lt_fi {x : UInt64} {a n : Int} (hx : FQ x a) (h : Q (.bool (decide (a < 4 * n))) s) : wpAny (model prog w) A (compareOp .Lt (.float x t) (.int n u)) Q E s :=
  lt_fi (by
    have e : (Float64.cmpInt x n == some Ordering.lt) = decide (a < 4 * n) := by
      rw [hx.cmpInt]
      rcases Int.lt_trichotomy a (4 * n) with h | h | h
      · rw [Int.compare_eq_lt.mpr h, decide_eq_true h]; rfl
      · rw [h]; simp
      · rw [Int.compare_eq_gt.mpr h, decide_eq_false (by omega)]; rfl
    rw [e]; exact h)
end
def ffb (x : UInt64) (k : Int) : Bool := match Float64.decode x with | .fin s m e => Float64.floorOf s m e == k | _ => false
def ftb (x : UInt64) (k : Int) : Bool := match Float64.decode x with | .fin s m e => Float64.truncOf s m e == k | _ => false
theorem ff_of {x : UInt64} {k : Int} (h : ffb x k = true) : FF x k := by
  unfold ffb at h
  split at h
  · rename_i s m e hd
    exact ⟨⟨_, _, _, hd⟩, by rw [PySem.Flt.toInt_fin hd]; simpa using h⟩
  · cases h
/-- x is finite and its truncated value is k -/
def FT (x : UInt64) (k : Int) : Prop := Fin' x ∧ PySem.Flt.toInt Float64.truncOf x = k
theorem ft_of {x : UInt64} {k : Int} (h : ftb x k = true) : FT x k := by
  unfold ftb at h
  split at h
  · rename_i s m e hd
    exact ⟨⟨_, _, _, hd⟩, by rw [PySem.Flt.toInt_fin hd]; simpa using h⟩
  · cases h
theorem tab306 {n : Int} (h1 : 4 ≤ n) (h2 : n ≤ 15) : FF (Float64.mul 4629306380116972641 (Float64.ofInt n)) (n * 306001 / 10000) := by
  have : n = 4 ∨ n = 5 ∨ n = 6 ∨ n = 7 ∨ n = 8 ∨ n = 9 ∨ n = 10 ∨ n = 11 ∨ n = 12 ∨ n = 13 ∨ n = 14 ∨ n = 15 := by omega
  refine ff_of ?_
  rcases this with h | h | h | h | h | h | h | h | h | h | h | h <;> subst h <;> decide +kernel
theorem tab30 {n : Int} (h1 : 4 ≤ n) (h2 : n ≤ 15) : FT (Float64.mul 4629306351969474970 (Float64.ofInt n)) (n * 306 / 10) := by
  have : n = 4 ∨ n = 5 ∨ n = 6 ∨ n = 7 ∨ n = 8 ∨ n = 9 ∨ n = 10 ∨ n = 11 ∨ n = 12 ∨ n = 13 ∨ n = 14 ∨ n = 15 := by omega
  refine ft_of ?_
  rcases this with h | h | h | h | h | h | h | h | h | h | h | h <;> subst h <;> decide +kernel
section
variable {prog : Program} {w : World} {A : Around} {E : Value → Shared → Prop} {s : Shared} {Q : Value → Shared → Prop} {t u : Tok}
theorem r_mul_306 {n : Int} (h1 : 4 ≤ n) (h2 : n ≤ 15) (h : ∀ r, FF r (n * 306001 / 10000) → Q (.float r s.toks) { s with toks := s.toks + 1 }) : wpAny (model prog w) A (binaryOp .Mult (.float 4629306380116972641 t) (.int n u)) Q E s :=
  mul_fi_fits (Nat.lt_of_lt_of_le (show n.natAbs < 2 ^ 10 by omega) (Nat.pow_le_pow_right (by decide) (by decide))) (h _ (tab306 h1 h2))
theorem r_mul_30 {n : Int} (h1 : 4 ≤ n) (h2 : n ≤ 15) (h : ∀ r, FT r (n * 306 / 10) → Q (.float r s.toks) { s with toks := s.toks + 1 }) : wpAny (model prog w) A (binaryOp .Mult (.float 4629306351969474970 t) (.int n u)) Q E s :=
  mul_fi_fits (Nat.lt_of_lt_of_le (show n.natAbs < 2 ^ 10 by omega) (Nat.pow_le_pow_right (by decide) (by decide))) (h _ (tab30 h1 h2))
theorem r_trunc {x : UInt64} {k : Int} (hA : A.handled = none) (hx : FT x k) (h : Q (.int k s.toks) { s with toks := s.toks + 1 }) : wpAny (model prog w) A (call (.builtin "math.trunc") [.float x t]) Q E s :=
  PySem.Flt.call_trunc_float hA (fun c => absurd c (by rw [hx.1.notNaN]; decide)) (fun c => absurd c (by rw [hx.1.notInf]; decide)) fun _ => by rw [hx.2]; exact h
end
theorem FQ.cast {x : UInt64} {a b : Int} (h : FQ x a) (e : a = b) : FQ x b := e ▸ h
theorem fq_of_bits {x : UInt64} {m : Nat} {e : Int} {n : Int} (h : Float64.decode x = .fin false m e) (hv : ((m * 2 ^ (e + 1074).toNat : Nat) : Int) = n * Q) : FQ x n := ⟨⟨_, _, _, h⟩, by rw [Float64.val_eq h]; exact hv⟩
theorem fq_epoch : FQ 4700144277945057280 6885702 := fq_of_bits (m := 7393466225000448) (e := -32) (by kernel_rfl) (by unfold Q; decide +kernel)
theorem fq_half : FQ 4602678819172646912 2 := fq_of_bits (m := 4503599627370496) (e := -53) (by kernel_rfl) (by unfold Q; decide +kernel)
theorem fq_1524 : FQ 4654419637352529920 6098 := fq_of_bits (m := 6704821906178048) (e := -42) (by kernel_rfl) (by unfold Q; decide +kernel)
theorem fq_365 : FQ 4645133162144333824 1461 := fq_of_bits (m := 6425545952722944) (e := -44) (by kernel_rfl) (by unfold Q; decide +kernel)
theorem fq_15 : FQ 4609434218613702656 6 := fq_of_bits (m := 6755399441055744) (e := -52) (by kernel_rfl) (by unfold Q; decide +kernel)

end
set_option maxRecDepth 100000
theorem off_MAC : True := by
  w_top off
  trivial

section
variable {prog : Program} {w : World} {A : Around} {E : Value → Shared → Prop} {s : Shared} {Q : Value → Shared → Prop} {t u : Tok}
theorem any30 (x : Int) : ([4, 6, 9, 11] : List Int).any (· == x) = decide (x = 4 ∨ x = 6 ∨ x = 9 ∨ x = 11) := by
  rw [Bool.eq_iff_iff]; simp; omega
theorem r_in30 {K : Frag} {a : Addr} {h₀ : Heap} {L : Addr} {m : Str → Option Value} {n : Nat} {dd : Option Addr} {sl : Array (Option Value)} {x : Int} {l : List Value}
    (F : Fr h₀ L s.heap m) (X₀ : K.In h₀) (hl : K.lookup a = some ⟨.type "tuple", dd, .seq l.toArray n, sl⟩) (hi : IntsAre l [4, 6, 9, 11]) (h : Q (.bool (decide (x = 4 ∨ x = 6 ∨ x = 9 ∨ x = 11))) s) :
    wpAny (model prog w) A (compareOp .In (.int x u) (.ref a)) Q E s :=
  in_tuple_ints (tupK (X₀.keeps F.keep) hl) hi (by rw [any30]; exact h)
end
local macro_rules | `(tactic| k_room) => `(tactic| ktr_room)
local macro_rules | `(tactic| walk_at "eval Call") => `(tactic| (k_here; k_dflt (refine Call_ ?_)))
local macro_rules | `(tactic| walk_at "binaryOp Mod int int") => `(tactic| (k_here; (with_reducible refine' r_mod ?ka ?_); (case ka => decide)))
local macro_rules | `(tactic| walk_at "binaryOp FloorDiv int int") => `(tactic| (k_here; (with_reducible refine' r_fdiv ?ka ?kb ?_); (case ka => decide); (case kb => exact PyProof.noPylong_of_log2 (by decide +kernel))))
local macro_rules | `(tactic| walk_at "compareOp In int ref") => `(tactic| (k_here; k_dflt (refine' r_in30 ?F ?X ?l ?i ?_; (case F => k_asm); (case X => k_asm); (case l => k_is); (case i => exact .cons _ _ (.cons _ _ (.cons _ _ (.cons _ _ .nil)))))))
local macro_rules | `(tactic| walk_at "my_ret") => `(tactic| ((case k1 => k_asm); (case k2 => k_asm); (case k3 => k_asm); (case k4 => k_asm); (case k5 => k_asm); (case kK => first | exact rfl | assumption); (case kd => ktr_room); (case ku => ktr_units)))
local macro_rules | `(tactic| walk_at "my_after") => `(tactic| (intro r9 h9 tk9 P9 F9 N9; first | subst P9 | (obtain ⟨t9, P9⟩ := P9; subst P9) | (obtain ⟨b9, P9, q9⟩ := P9; subst P9) | (obtain ⟨b9, t9, P9, q9⟩ := P9; subst P9); (try dsimp only); (try k_fold)))
local macro_rules | `(tactic| walk_at "exec Raise some none") => `(tactic| (k_here; exfalso; (with_reducible rename (_ ≤ mlen _ _) => hml); simp only [mlen] at hml; (repeat' split at hml) <;> first | omega | contradiction | ((with_reducible rename (leapB _ = true) => hq1); (with_reducible rename (leapB _ = false) => hq2); exact absurd (hq1.symm.trans hq2) (by decide))))
local macro_rules | `(tactic| walk_at "my_fq") => `(tactic| first | with_reducible assumption | exact fq_epoch | exact fq_half | exact fq_1524 | exact fq_365 | exact fq_15)
local macro_rules | `(tactic| walk_at "my_ff") => `(tactic| first | with_reducible assumption | exact FQ.toFF (by with_reducible assumption) | exact FB.toFF (by with_reducible assumption) (by omega))
local macro_rules | `(tactic| walk_at "my_fb") => `(tactic| with_reducible assumption)
local macro_rules | `(tactic| walk_at "binaryOp Add float int") => `(tactic| (k_here; k_dflt (first
  | ((with_reducible refine' r_add_fi ?kx ?ka ?kb ?_); (case kx => walk_at "my_fq"); (case ka => omega); (case kb => omega); intro r9 q9)
  | ((with_reducible refine' r_add_fi_b ?kx ?ka ?kb ?kc ?_); (case kx => walk_at "my_fb"); (case ka => omega); (case kb => omega); (case kc => omega); intro r9 q9))))
local macro_rules | `(tactic| walk_at "binaryOp Add int float") => `(tactic| (k_here; k_dflt ((with_reducible refine' r_add_if ?kx ?ka ?kb ?_); (case kx => walk_at "my_fq"); (case ka => omega); (case kb => omega); intro r9 q9)))
local macro_rules | `(tactic| walk_at "binaryOp Sub float int") => `(tactic| (k_here; k_dflt ((with_reducible refine' r_sub_fi ?kx ?ka ?kb ?_); (case kx => walk_at "my_fq"); (case ka => omega); (case kb => omega); intro r9 q9)))
local macro_rules | `(tactic| walk_at "binaryOp Sub int float") => `(tactic| (k_here; k_dflt ((with_reducible refine' r_sub_if ?kx ?ka ?kb ?_); (case kx => walk_at "my_fq"); (case ka => omega); (case kb => omega); intro r9 q9)))
local macro_rules | `(tactic| walk_at "binaryOp Add float float") => `(tactic| (k_here; k_dflt ((with_reducible refine' r_add_ff ?kx ?ka ?kb ?_); (case kx => walk_at "my_fq"); (case ka => walk_at "my_fq"); (case kb => omega); intro r9 q9)))
local macro_rules | `(tactic| walk_at "binaryOp Sub float float") => `(tactic| (k_here; k_dflt ((with_reducible refine' r_sub_ff ?kx ?ka ?kb ?_); (case kx => walk_at "my_fq"); (case ka => walk_at "my_fq"); (case kb => omega); intro r9 q9)))
local macro_rules | `(tactic| walk_at "binaryOp Mult float int") => `(tactic| (k_here; k_dflt ((with_reducible refine' r_mul_fi ?kx ?ka ?kb ?_); (case kx => walk_at "my_fq"); (case ka => omega); (case kb => omega); intro r9 q9)))
local macro_rules | `(tactic| walk_at "binaryOp Mod float int") => `(tactic| (k_here; k_dflt ((with_reducible refine' r_mod_fi ?kx ?ka ?kb ?_); (case kx => walk_at "my_fq"); (case ka => decide); (case kb => decide); intro r9 q9)))
local macro_rules | `(tactic| walk_at "binaryOp Div float int") => `(tactic| (k_here; k_dflt ((with_reducible refine' r_div_fi ?kx ?ka ?kb ?kc ?_); (case kx => walk_at "my_fq"); (case ka => decide); (case kb => decide); (case kc => omega); intro r9 q9)))
local macro_rules | `(tactic| walk_at "binaryOp Div int int") => `(tactic| (k_here; k_dflt (first
  | ((with_reducible refine' r_div_ii16 ?kA ?kx ?ka ?kb ?_); (case kA => exact rfl); (case kx => decide); (case ka => decide); (case kb => omega); intro r9 q9 p9)
  | ((with_reducible refine' r_div_ii ?kA ?kx ?ka ?kb ?_); (case kA => exact rfl); (case kx => decide); (case ka => decide); (case kb => omega); intro r9 q9))))
local macro_rules | `(tactic| walk_at "call builtin:math.floor") => `(tactic| (k_here; k_dflt ((with_reducible show wpAny _ _ (call _ [Value.float _ _] _) _ _ _); k_dflt (refine' r_floor ?kA ?kx ?_); (case kA => exact rfl); (case kx => walk_at "my_ff"))))
local macro_rules | `(tactic| walk_at "call type:int") => `(tactic| (k_here; k_dflt ((with_reducible show wpAny _ _ (call _ [Value.float _ _] _) _ _ _); k_dflt (refine' r_int ?kA ?kx ?_); (case kA => exact rfl); (case kx => walk_at "my_fq"))))
local macro_rules | `(tactic| walk_at "compareOp Eq float float") => `(tactic| (k_here; k_dflt ((with_reducible refine' r_eq_ff ?kx ?ka ?_); (case kx => walk_at "my_fq"); (case ka => walk_at "my_fq"))))
local macro_rules | `(tactic| walk_at "compareOp NotEq float float") => `(tactic| (k_here; k_dflt ((with_reducible refine' r_ne_ff ?kx ?ka ?_); (case kx => walk_at "my_fq"); (case ka => walk_at "my_fq"))))
local macro_rules | `(tactic| walk_at "compareOp Lt float int") => `(tactic| (k_here; k_dflt ((with_reducible refine' r_lt_fi ?kx ?_); (case kx => walk_at "my_fq"))))
local macro_rules | `(tactic| walk_at "my_bool") => `(tactic| (exfalso; first | contradiction | ((with_reducible rename (leapB _ = true) => hq1); (with_reducible rename (leapB _ = false) => hq2); exact absurd (hq1.symm.trans hq2) (by decide)) | ((with_reducible rename (¬ leapB _ = true) => hq1); (with_reducible rename (leapB _ = true) => hq2); exact hq1 hq2)))
local macro_rules | `(tactic| walk_at "my_arith") => `(tactic| ((try simp only [dby, cumF, mlen]); (repeat' split) <;> first | omega | walk_at "my_bool"))
local macro_rules | `(tactic| walk_at "binaryOp Mult float int") => `(tactic| (k_here; k_dflt (first
  | ((with_reducible refine' r_mul_306 ?ka ?kb ?_); (case ka => omega); (case kb => omega); intro r9 q9)
  | ((with_reducible refine' r_mul_30 ?ka ?kb ?_); (case ka => omega); (case kb => omega); intro r9 q9))))
local macro_rules | `(tactic| walk_at "call builtin:math.trunc") => `(tactic| (k_here; k_dflt ((with_reducible show wpAny _ _ (call _ [Value.float _ _] _) _ _ _); k_dflt (refine' r_trunc ?kA ?kx ?_); (case kA => exact rfl); (case kx => with_reducible assumption))))
local macro_rules | `(tactic| walk_at "execs cons If cons") => `(tactic| (k_here; k_dflt (refine wpAny_execs_cons ?_); (try dsimp only)))
local macro_rules | `(tactic| walk_at "execs cons If nil") => `(tactic| (k_here; k_dflt (refine wpAny_execs_cons ?_); (try dsimp only)))
local macro_rules | `(tactic| walk_at "my_afterT") => `(tactic| (intro x9 o9 h9 tk9 P9 F9 N9 l9; first | (obtain ⟨t9, u9, P9⟩ := P9; subst P9) | (obtain ⟨t9, u9, v9, P9⟩ := P9; subst P9); (try k_lt l9); (try dsimp only); (try k_fold)))
local macro_rules | `(tactic| walk_at "exec If") => `(tactic| (k_here; k_dflt (refine wpAny_If ?_)))

set_option maxRecDepth 100000
theorem off_C1 : True := by
  w_top off
  trivial

section
variable {w : World} {p : Program} {loose : List Str} {mean : ExcName → Option Value} {mg mb : Str → Option Value}
set_option maxHeartbeats 1000000 in
theorem c_isleap (y : Int) (ty : Tok) : SpecV w p loose mean mg mb 1 379 [.int y ty] (fun r => r = .bool (leapB y)) := by
  unfold SpecV
  k_fill
  intro dp un gd cn cs a ccd cl outer A₀ base h₀ L m news s Q E B F X N T hk hd hu hret
  refine wpAny_call ?_
  k_dflt cell_enter
  k_steps
  all_goals (refine retV hret ?_ (by assumption) (by assumption))
  all_goals (unfold leapB; first | (simp_all; done) | (simp_all; rfl))
end
local macro_rules | `(tactic| walk_at "call ref") => `(tactic| (k_here; (with_reducible show wpAny _ _ (call (Value.ref 379) _ _) _ _ _); k_dflt (refine' use_V (c_isleap _ _) ?k1 ?k2 ?k3 ?k4 ?k5 ?kK ?kd ?ku ?_; walk_at "my_ret"); walk_at "my_after"))
section
variable {w : World} {p : Program} {loose : List Str} {mean : ExcName → Option Value} {mg mb : Str → Option Value}
set_option maxHeartbeats 1000000 in
theorem c_legal (y m d : Int) (ty tm td : Tok) (h3 : 1 ≤ d) (h4 : d ≤ mlen (leapB y) m) : SpecV w p loose mean mg mb 3 415 [.int y ty, .int m tm, .int d td] (fun r => r = .bool true) := by
  unfold SpecV
  k_fill
  intro dp un gd cn cs a ccd cl outer A₀ base h₀ L m news s Q E B F X N T hk hd hu hret
  refine wpAny_call ?_
  k_dflt cell_enter
  k_steps
  all_goals (exact retV hret rfl (by assumption) (by assumption))
end

set_option maxRecDepth 100000
theorem off_C2 : True := by
  w_top off
  trivial

section
variable {w : World} {p : Program} {loose : List Str} {mean : ExcName → Option Value} {mg mb : Str → Option Value}
end
local macro_rules | `(tactic| walk_at "call ref") => `(tactic| (k_here; (with_reducible show wpAny _ _ (call (Value.ref 415) _ _) _ _ _); k_dflt (refine' use_V (c_legal _ _ _ _ _ _ ?kh1 ?kh2) ?k1 ?k2 ?k3 ?k4 ?k5 ?kK ?kd ?ku ?_; walk_at "my_ret"); (case kh1 => omega); (case kh2 => assumption); walk_at "my_after"))
section
variable {w : World} {p : Program} {loose : List Str} {mean : ExcName → Option Value} {mg mb : Str → Option Value}
set_option maxHeartbeats 1000000 in
theorem c_tojd (y m d : Int) (ty tm td : Tok) (hy1 : -1100000 ≤ y) (hy2 : y ≤ 1100000) (h1 : 1 ≤ m) (h2 : m ≤ 12) (h3 : 1 ≤ d) (h4 : d ≤ mlen (leapB y) m) (h5 : d ≤ 31) :
    SpecV w p loose mean mg mb 5 429 [.int y ty, .int m tm, .int d td] (fun r => ∃ b t, r = .float b t ∧ FQ b (4 * (1721424 + dby y + cumF (leapB y) m + d) + 2)) := by
  unfold SpecV
  k_fill
  intro dp un gd cn cs a ccd cl outer A₀ base h₀ L m news s Q E B F X N T hk hd hu hret
  refine wpAny_call ?_
  k_dflt cell_enter
  k_steps
  all_goals (refine retV hret ⟨_, _, rfl, FQ.cast (by with_reducible assumption) ?_⟩ (by assumption) (by assumption))
  all_goals walk_at "my_arith"
end

theorem off_A1 : True := by
  w_top off
  trivial
section
theorem quots (y : Int) : 1461 * (y + 4716) / 4 = 365 * (y + 4716) + (y / 4 + 1179) ∧ y / 100 / 4 = y / 400 := by omega
theorem m_twelve {m : Int} (h1 : 1 ≤ m) (h2 : m ≤ 12) : m = 1 ∨ m = 2 ∨ m = 3 ∨ m = 4 ∨ m = 5 ∨ m = 6 ∨ m = 7 ∨ m = 8 ∨ m = 9 ∨ m = 10 ∨ m = 11 ∨ m = 12 := by omega
theorem jd2_a {y m d : Int} (h1 : 1 ≤ m) (h2 : m ≤ 2) :
    4 * (2 - (y - 1) / 100 + (y - 1) / 100 / 4 + d + 1461 * (y - 1 + 4716) / 4 + (m + 12 + 1) * 306001 / 10000) - 6098 = 4 * (1721424 + dby y + cumF (leapB y) m + d) + 2 := by
  have q := quots (y - 1)
  rw [q.1, q.2]
  simp only [dby, cumF, if_pos h2]
  have : m = 1 ∨ m = 2 := by omega
  rcases this with h | h <;> subst h <;> omega
theorem before (y : Int) : (leapB y = true → (y - 1) / 4 - (y - 1) / 100 + (y - 1) / 400 = y / 4 - y / 100 + y / 400 - 1) ∧ (leapB y = false → (y - 1) / 4 - (y - 1) / 100 + (y - 1) / 400 = y / 4 - y / 100 + y / 400) := by
  constructor
  · intro h
    obtain ⟨h4, h⟩ := leapB_t h
    have a4 : (y - 1) / 4 = y / 4 - 1 := by omega
    rcases h with h | h
    · have a1 : (y - 1) / 100 = y / 100 := by omega
      have a2 : (y - 1) / 400 = y / 400 := by omega
      omega
    · have a1 : (y - 1) / 100 = y / 100 - 1 := by omega
      have a2 : (y - 1) / 400 = y / 400 - 1 := by omega
      omega
  · intro h
    rcases leapB_f h with h | ⟨h, h'⟩
    · have a4 : (y - 1) / 4 = y / 4 := by omega
      have a1 : (y - 1) / 100 = y / 100 := by omega
      have a2 : (y - 1) / 400 = y / 400 := by omega
      omega
    · have a4 : (y - 1) / 4 = y / 4 - 1 := by omega
      have a1 : (y - 1) / 100 = y / 100 - 1 := by omega
      have a2 : (y - 1) / 400 = y / 400 := by omega
      omega
theorem jd2_b {y m d : Int} (h1 : ¬ m ≤ 2) (h2 : m ≤ 12) :
    4 * (2 - y / 100 + y / 100 / 4 + d + 1461 * (y + 4716) / 4 + (m + 1) * 306001 / 10000) - 6098 = 4 * (1721424 + dby y + cumF (leapB y) m + d) + 2 := by
  have q := quots y
  have b := before y
  rw [q.1, q.2]
  simp only [dby, cumF, if_neg h1]
  generalize (y - 1) / 4 = a1 at *
  generalize (y - 1) / 100 = a2 at *
  generalize (y - 1) / 400 = a3 at *
  generalize y / 4 = b1 at *
  generalize y / 100 = b2 at *
  generalize y / 400 = b3 at *
  have hm := m_twelve (m := m) (by omega) h2
  cases hl : leapB y with
  | true =>
    have := b.1 hl
    simp only [if_true]
    rcases hm with h|h|h|h|h|h|h|h|h|h|h|h <;> subst h <;> omega
  | false =>
    have := b.2 hl
    simp only [Bool.false_eq_true, if_false]
    rcases hm with h|h|h|h|h|h|h|h|h|h|h|h <;> subst h <;> omega
theorem isPair_of {a b b' : Int} {t u : PySem.Tok} (h : b' = b) : IsPair a b { cls := .type "tuple", data := .seq #[.int a t, .int b' u] } := ⟨t, u, by rw [h]⟩
theorem isTriple_of {a b c a' b' c' : Int} {t u v : PySem.Tok} (ha : a' = a) (hb : b' = b) (hc : c' = c) : IsTriple a b c { cls := .type "tuple", data := .seq #[.int a' t, .int b' u, .int c' v] } := ⟨t, u, v, by rw [ha, hb, hc]⟩
theorem ord_a {lp : Bool} {m d : Int} (h1 : 1 ≤ m) (h2 : m + 1 ≤ 3) :
    (m + 1 + 12) * 306 / 10 + d - 122 + 59 + (if lp = true then 1 else 0) - 365 - (if lp = true then 1 else 0) = cumF lp m + d := by
  simp only [cumF, if_pos (show m ≤ 2 by omega)]
  have : m = 1 ∨ m = 2 := by omega
  split <;> rcases this with h | h <;> subst h <;> omega
theorem ord_b {lp : Bool} {m d : Int} (h1 : ¬ m + 1 ≤ 3) (h2 : m ≤ 12) :
    (m + 1) * 306 / 10 + d - 122 + 59 + (if lp = true then 1 else 0) = cumF lp m + d := by
  simp only [cumF, if_neg (show ¬ m ≤ 2 by omega)]
  have hm := m_twelve (m := m) (by omega) h2
  split <;> rcases hm with h|h|h|h|h|h|h|h|h|h|h|h <;> subst h <;> omega

end
set_option maxRecDepth 100000
theorem off_C3 : True := by
  w_top off
  trivial

section
variable {w : World} {p : Program} {loose : List Str} {mean : ExcName → Option Value} {mg mb : Str → Option Value}
end
local macro_rules | `(tactic| walk_at "call ref") => `(tactic| (k_here; (with_reducible show wpAny _ _ (call (Value.ref 429) _ _) _ _ _); k_dflt (refine' use_V (c_tojd _ _ _ _ _ _ ?kh1 ?kh2 ?kh3 ?kh4 ?kh5 ?kh6 ?kh7) ?k1 ?k2 ?k3 ?k4 ?k5 ?kK ?kd ?ku ?_; walk_at "my_ret"); (case kh1 => omega); (case kh2 => omega); (case kh3 => omega); (case kh4 => omega); (case kh5 => omega); (case kh6 => walk_at "my_mlen"); (case kh7 => omega); walk_at "my_after"))
section
variable {w : World} {p : Program} {loose : List Str} {mean : ExcName → Option Value} {mg mb : Str → Option Value}
end
local macro_rules | `(tactic| walk_at "my_mlen") => `(tactic| first | assumption | (simp only [mlen]; (repeat' split) <;> omega))
section
variable {w : World} {p : Program} {loose : List Str} {mean : ExcName → Option Value} {mg mb : Str → Option Value}
set_option maxHeartbeats 1000000 in
theorem c_tojd2 (y m d : Int) (ty tm td : Tok) (hy1 : 1801 ≤ y) (hy2 : y ≤ 2099) (h1 : 1 ≤ m) (h2 : m ≤ 12) (h3 : 1 ≤ d) (h4 : d ≤ mlen (leapB y) m) (h5 : d ≤ 31) :
    SpecV w p loose mean mg mb 5 422 [.int y ty, .int m tm, .int d td] (fun r => ∃ b t, r = .float b t ∧ FQ b (4 * (1721424 + dby y + cumF (leapB y) m + d) + 2)) := by
  have hdb := dby_b (y := y) (by omega) (by omega)
  have h1b := cumF_1 (leapB y)
  unfold SpecV
  k_fill
  intro dp un gd cn cs a ccd cl outer A₀ base h₀ L m news s Q E B F X N T hk hd hu hret
  refine wpAny_call ?_
  k_dflt cell_enter
  k_steps
  all_goals (refine retV hret ⟨_, _, rfl, FQ.cast (by with_reducible assumption) ?_⟩ (by assumption) (by assumption))
  all_goals first | (with_reducible exact jd2_a h1 (by with_reducible assumption)) | (with_reducible exact jd2_b (by with_reducible assumption) h2)
set_option maxHeartbeats 1000000 in
theorem c_ojd (y d : Int) (ty td : Tok) (hy1 : -1100000 ≤ y) (hy2 : y ≤ 1100000) (h3 : 1 ≤ d) (h5 : d ≤ 366) :
    SpecV w p loose mean mg mb 7 549 [.int y ty, .int d td] (fun r => ∃ b t, r = .float b t ∧ FQ b (4 * (1721424 + dby y + d) + 2)) := by
  have hdb := dby_b (y := y) (by omega) (by omega)
  have h1b := cumF_1 (leapB y)
  unfold SpecV
  k_fill
  intro dp un gd cn cs a ccd cl outer A₀ base h₀ L m news s Q E B F X N T hk hd hu hret
  refine wpAny_call ?_
  k_dflt cell_enter
  k_steps
  all_goals (refine retV hret ⟨_, _, rfl, FQ.cast (by with_reducible assumption) ?_⟩ (by assumption) (by assumption))
  all_goals omega
set_option maxHeartbeats 1000000 in
theorem c_ofg (y m d : Int) (ty tm td : Tok) (hy1 : -1100000 ≤ y) (hy2 : y ≤ 1100000) (h1 : 1 ≤ m) (h2 : m ≤ 12) (h3 : 1 ≤ d) (h4 : d ≤ mlen (leapB y) m) (h5 : d ≤ 31) :
    SpecT w p loose mean mg mb 3 556 [.int y ty, .int m tm, .int d td] (IsPair y (cumF (leapB y) m + d)) := by
  have hdb := dby_b (y := y) (by omega) (by omega)
  unfold SpecT
  k_fill
  intro dp un gd cn cs a ccd cl outer A₀ base h₀ L m news s Q E B F X N T hk hd hu hret
  refine wpAny_call ?_
  k_dflt cell_enter
  k_steps
  all_goals (refine' retT hret ?_ ?F ?N ?l; (case F => assumption); (case N => assumption); (case l => assumption))
  all_goals (refine isPair_of ?_)
  all_goals first | (with_reducible exact ord_a h1 (by with_reducible assumption)) | (with_reducible exact ord_b (by with_reducible assumption) h2)
end

theorem off_A2 : True := by
  w_top off
  trivial
section
def yS (dn : Int) : Int := dn / 146097 * 400 + dn % 146097 / 36524 * 100 + dn % 146097 % 36524 / 1461 * 4 + dn % 146097 % 36524 % 1461 / 365

theorem year_core {a b c e p dn : Int} (hb : 0 ≤ b ∧ b ≤ 3) (hc : 0 ≤ c ∧ c ≤ 24) (he : 0 ≤ e ∧ e ≤ 3) (hp : 0 ≤ p ∧ p ≤ 365) (hl : p = 365 → e = 3 ∧ (c = 24 → b = 3)) (hd : dn = 146097 * a + (36524 * b + (1461 * c + (365 * e + p)))) :
    (dn % 146097 / 36524 = 4 → yS dn = 400 * a + 100 * b + 4 * c + e + 1) ∧ (dn % 146097 % 36524 % 1461 / 365 = 4 → yS dn = 400 * a + 100 * b + 4 * c + e + 1) ∧
    (dn % 146097 / 36524 ≠ 4 → dn % 146097 % 36524 % 1461 / 365 ≠ 4 → yS dn + 1 = 400 * a + 100 * b + 4 * c + e + 1) := by
  have h1 : 36524 * b + (1461 * c + (365 * e + p)) < 146097 := by omega
  have h0 : 0 ≤ 36524 * b + (1461 * c + (365 * e + p)) := by omega
  have q1 : dn / 146097 = a := by omega
  have r1 : dn % 146097 = 36524 * b + (1461 * c + (365 * e + p)) := by omega
  unfold yS
  rw [q1, r1]
  by_cases hx : b = 3 ∧ c = 24 ∧ e = 3 ∧ p = 365
  · obtain ⟨rfl, rfl, rfl, rfl⟩ := hx
    refine ⟨?_, ?_, ?_⟩ <;> intros <;> omega
  · have h2 : 1461 * c + (365 * e + p) < 36524 := by omega
    have q2 : (36524 * b + (1461 * c + (365 * e + p))) / 36524 = b := by omega
    have r2 : (36524 * b + (1461 * c + (365 * e + p))) % 36524 = 1461 * c + (365 * e + p) := by omega
    have q3 : (1461 * c + (365 * e + p)) / 1461 = c := by omega
    have r3 : (1461 * c + (365 * e + p)) % 1461 = 365 * e + p := by omega
    rw [q2, r2, q3, r3]
    refine ⟨?_, ?_, ?_⟩ <;> intros <;> omega

theorem year_facts {y p dn : Int} (h0 : 0 ≤ p) (h1 : p < 365 + (if leapB y = true then 1 else 0)) (hd : dn = dby y + p) :
    (dn % 146097 / 36524 = 4 → yS dn = y) ∧ (dn % 146097 % 36524 % 1461 / 365 = 4 → yS dn = y) ∧ (dn % 146097 / 36524 ≠ 4 → dn % 146097 % 36524 % 1461 / 365 ≠ 4 → yS dn + 1 = y) := by
  have e1 : (y - 1) / 400 * 400 + (y - 1) % 400 / 100 * 100 + (y - 1) % 100 / 4 * 4 + (y - 1) % 4 = y - 1 := by omega
  have d1 : dby y = 146097 * ((y - 1) / 400) + (36524 * ((y - 1) % 400 / 100) + (1461 * ((y - 1) % 100 / 4) + (365 * ((y - 1) % 4)))) := by
    have a1 : (y - 1) / 100 = 4 * ((y - 1) / 400) + (y - 1) % 400 / 100 := by omega
    have a2 : (y - 1) / 4 = 25 * ((y - 1) / 100) + (y - 1) % 100 / 4 := by omega
    unfold dby
    rw [a2, a1]
    omega
  have hl : p = 365 → (y - 1) % 4 = 3 ∧ ((y - 1) % 100 / 4 = 24 → (y - 1) % 400 / 100 = 3) := by
    intro hp
    have : leapB y = true := by
      cases h : leapB y with
      | true => rfl
      | false => rw [h] at h1; simp at h1; omega
    obtain ⟨l4, l⟩ := leapB_t this
    omega
  have hp2 : p ≤ 365 := by split at h1 <;> omega
  have K := year_core (a := (y - 1) / 400) (b := (y - 1) % 400 / 100) (c := (y - 1) % 100 / 4) (e := (y - 1) % 4) (p := p) (dn := dn) (by omega) (by omega) (by omega) ⟨h0, hp2⟩ hl (by rw [hd, d1]; omega)
  have e2 : 400 * ((y - 1) / 400) + 100 * ((y - 1) % 400 / 100) + 4 * ((y - 1) % 100 / 4) + (y - 1) % 4 + 1 = y := by omega
  rw [e2] at K
  exact K

theorem place_b {lp : Bool} {m d : Int} (h1 : 1 ≤ m) (h2 : m ≤ 12) (h3 : 1 ≤ d) (h4 : d ≤ mlen lp m) : 0 ≤ cumF lp m + d - 1 ∧ cumF lp m + d - 1 < 365 + (if lp = true then 1 else 0) := by
  have hm := m_twelve h1 h2
  cases lp <;> simp only [cumF, mlen, Bool.false_eq_true, if_false, if_true] at h4 ⊢ <;> rcases hm with h|h|h|h|h|h|h|h|h|h|h|h <;> subst h <;> simp at h4 ⊢ <;> omega

theorem month_a {lp : Bool} {m d p : Int} (h1 : 1 ≤ m) (h2 : m ≤ 12) (h3 : 1 ≤ d) (h4 : d ≤ mlen lp m) (hp : p = cumF lp m + d - 1) (h : p < 58 + (if lp = true then 1 else 0)) : ((4 * p + 4 * 0) * 12 + 4 * 373) / (4 * 367) = m := by
  have hm := m_twelve h1 h2
  cases lp <;> simp only [cumF, mlen, Bool.false_eq_true, if_false, if_true] at h4 hp h <;> rcases hm with e|e|e|e|e|e|e|e|e|e|e|e <;> subst e <;> simp at h4 hp <;> omega
theorem month_b {m d p : Int} (h1 : 1 ≤ m) (h2 : m ≤ 12) (h3 : 1 ≤ d) (h4 : d ≤ mlen true m) (hp : p = cumF true m + d - 1) (h : ¬ p < 58 + 1) : ((4 * p + 4 * 1) * 12 + 4 * 373) / (4 * 367) = m := by
  have hm := m_twelve h1 h2
  simp only [cumF, mlen, if_true] at h4 hp
  rcases hm with e|e|e|e|e|e|e|e|e|e|e|e <;> subst e <;> simp at h4 hp <;> omega
theorem month_c {m d p : Int} (h1 : 1 ≤ m) (h2 : m ≤ 12) (h3 : 1 ≤ d) (h4 : d ≤ mlen false m) (hp : p = cumF false m + d - 1) (h : ¬ p < 58 + 0) : ((4 * p + 4 * 2) * 12 + 4 * 373) / (4 * 367) = m := by
  have hm := m_twelve h1 h2
  simp only [cumF, mlen, Bool.false_eq_true, if_false] at h4 hp
  rcases hm with e|e|e|e|e|e|e|e|e|e|e|e <;> subst e <;> simp at h4 hp <;> omega

end
set_option maxRecDepth 100000
theorem off_C4 : True := by
  w_top off
  trivial

structure J (y m d p dn : Int) : Prop where
  hy1 : -1100000 ≤ y
  hy2 : y ≤ 1100000
  h1 : 1 ≤ m
  h2 : m ≤ 12
  h3 : 1 ≤ d
  h4 : d ≤ mlen (leapB y) m
  h5 : d ≤ 31
  hp : p = cumF (leapB y) m + d - 1
  hd : dn = dby y + p
theorem J.pb {y m d p dn : Int} (j : J y m d p dn) : 0 ≤ p ∧ p < 365 + (if leapB y = true then 1 else 0) := by
  have := place_b j.h1 j.h2 j.h3 j.h4
  rw [j.hp]; exact this
theorem J.pb2 {y m d p dn : Int} (j : J y m d p dn) : 0 ≤ p ∧ p ≤ 365 := by
  have := j.pb
  refine ⟨this.1, ?_⟩
  have := this.2
  split at this <;> omega
theorem J.dnb {y m d p dn : Int} (j : J y m d p dn) : -410000000 ≤ dn ∧ dn ≤ 410000365 := by
  have a := dby_b j.hy1 j.hy2
  have b := j.pb2
  rw [j.hd]; omega
theorem J.year {y m d p dn : Int} (j : J y m d p dn) : (dn % 146097 / 36524 = 4 → yS dn = y) ∧ (dn % 146097 % 36524 % 1461 / 365 = 4 → yS dn = y) ∧ (dn % 146097 / 36524 ≠ 4 → dn % 146097 % 36524 % 1461 / 365 ≠ 4 → yS dn + 1 = y) := year_facts j.pb.1 j.pb.2 j.hd
theorem J.ma {y m d p dn : Int} (j : J y m d p dn) (h : 4 * p < 4 * (58 + (if leapB y = true then 1 else 0))) : ((4 * p + 4 * 0) * 12 + 4 * 373) / (4 * 367) = m := month_a j.h1 j.h2 j.h3 j.h4 j.hp (by omega)
theorem J.mb {y m d p dn : Int} (j : J y m d p dn) (h : ¬ 4 * p < 4 * (58 + (if leapB y = true then 1 else 0))) (hl : leapB y = true) : ((4 * p + 4 * 1) * 12 + 4 * 373) / (4 * 367) = m :=
  month_b j.h1 j.h2 j.h3 (hl ▸ j.h4) (hl ▸ j.hp) (by rw [if_pos hl] at h; omega)
theorem J.mc {y m d p dn : Int} (j : J y m d p dn) (h : ¬ 4 * p < 4 * (58 + (if leapB y = true then 1 else 0))) (hl : leapB y = false) : ((4 * p + 4 * 2) * 12 + 4 * 373) / (4 * 367) = m :=
  month_c j.h1 j.h2 j.h3 (hl ▸ j.h4) (hl ▸ j.hp) (by rw [hl] at h; simp at h; omega)
section
variable {prog : Program} {w : World} {A : Around} {E : Value → Shared → Prop} {s : Shared} {Q : Value → Shared → Prop} {t u : Tok} {y m d p dn : Int}
theorem r_sub_dn {x z : UInt64} {a b : Int} (mk : J y m d p dn) (hx : FQ x a) (hy : FQ z b) (e : a - b = 4 * dn) (h : ∀ r, FQ r (4 * dn) → Q (.float r s.toks) { s with toks := s.toks + 1 }) : wpAny (model prog w) A (binaryOp .Sub (.float x t) (.float z u)) Q E s :=
  r_sub_ff hx hy (by have := mk.dnb; omega) (by rw [e]; exact h)
theorem r_sub_p {x z : UInt64} {a b : Int} (mk : J y m d p dn) (hx : FQ x a) (hy : FQ z b) (e : a - b = 4 * p) (h : ∀ r, FQ r (4 * p) → Q (.float r s.toks) { s with toks := s.toks + 1 }) : wpAny (model prog w) A (binaryOp .Sub (.float x t) (.float z u)) Q E s :=
  r_sub_ff hx hy (by have := mk.pb2; omega) (by rw [e]; exact h)
theorem r_sub_d {x z : UInt64} {a b : Int} (mk : J y m d p dn) (hx : FQ x a) (hy : FQ z b) (e : a - b = 4 * (d - 1)) (h : ∀ r, FQ r (4 * (d - 1)) → Q (.float r s.toks) { s with toks := s.toks + 1 }) : wpAny (model prog w) A (binaryOp .Sub (.float x t) (.float z u)) Q E s :=
  r_sub_ff hx hy (by have := mk.h3; have := mk.h5; omega) (by rw [e]; exact h)
theorem r_mod_fi4 {x : UInt64} {a n : Int} (hx : FQ x (4 * a)) (hn0 : 0 < n) (hn : n < 2 ^ 50) (h : ∀ r, FQ r (4 * (a % n)) → Q (.float r s.toks) { s with toks := s.toks + 1 }) : wpAny (model prog w) A (binaryOp .Mod (.float x t) (.int n u)) Q E s :=
  r_mod_fi hx hn0 hn (by rw [Int.mul_emod_mul_of_pos _ _ (by decide)]; exact h)
theorem r_div_fi4 {x : UInt64} {a n : Int} (hx : FQ x (4 * a)) (hn0 : 0 < n) (hn : n < 1048576) (hb : (a / n).natAbs < 2 ^ 28) (h : ∀ r, FF r (a / n) → Q (.float r s.toks) { s with toks := s.toks + 1 }) : wpAny (model prog w) A (binaryOp .Div (.float x t) (.int n u)) Q E s :=
  r_div_fi hx hn0 hn (by rw [Int.mul_ediv_mul_of_pos _ _ (by decide)]; exact hb) (by rw [Int.mul_ediv_mul_of_pos _ _ (by decide)]; exact h)
end
section
variable {w : World} {p : Program} {loose : List Str} {mean : ExcName → Option Value} {mg mb : Str → Option Value}
theorem cj_isleap {y m d q dn Y : Int} {ty : Tok} (_mk : J y m d q dn) (e : Y = y) : SpecV w p loose mean mg mb 1 379 [.int Y ty] (fun r => r = .bool (leapB y)) := by
  subst e; exact c_isleap _ _
theorem cj_tojd {y m d q dn Y : Int} {ty tm td : Tok} (mk : J y m d q dn) (e : Y = y) : SpecV w p loose mean mg mb 5 429 [.int Y ty, .int 1 tm, .int 1 td] (fun r => ∃ b t, r = .float b t ∧ FQ b (4 * (1721424 + dby y + cumF (leapB y) 1 + 1) + 2)) := by
  subst e; exact c_tojd _ _ _ _ _ _ mk.hy1 mk.hy2 (by decide) (by decide) (by decide) (by simp only [mlen]; (repeat' split) <;> omega) (by decide)
theorem cj_tojdM {y m d q dn Y M : Int} {ty tm td : Tok} (mk : J y m d q dn) (e : Y = y) (eM : M = m) : SpecV w p loose mean mg mb 5 429 [.int Y ty, .int M tm, .int 1 td] (fun r => ∃ b t, r = .float b t ∧ FQ b (4 * (1721424 + dby y + cumF (leapB y) m + 1) + 2)) := by
  subst e eM; exact c_tojd _ _ _ _ _ _ mk.hy1 mk.hy2 mk.h1 mk.h2 (by decide) (by simp only [mlen]; (repeat' split) <;> omega) (by decide)
end
local macro_rules | `(tactic| walk_at "my_year") => `(tactic| first | exact (J.year (by with_reducible assumption)).1 (by assumption) | exact (J.year (by with_reducible assumption)).2.1 (by assumption) | exact (J.year (by with_reducible assumption)).2.2 (by assumption) (by assumption))
section
variable {w : World} {p : Program} {loose : List Str} {mean : ExcName → Option Value} {mg mb : Str → Option Value}
end
local macro_rules | `(tactic| walk_at "my_month") => `(tactic| first | exact J.ma (by with_reducible assumption) (by assumption) | exact J.mb (by with_reducible assumption) (by assumption) (by assumption) | exact J.mc (by with_reducible assumption) (by assumption) (by assumption))
section
variable {w : World} {p : Program} {loose : List Str} {mean : ExcName → Option Value} {mg mb : Str → Option Value}
end
local macro_rules | `(tactic| walk_at "call ref") => `(tactic| (k_here; (with_reducible show wpAny _ _ (call (Value.ref 379) _ _) _ _ _); k_dflt (refine' use_V (cj_isleap ?kj ?ke) ?k1 ?k2 ?k3 ?k4 ?k5 ?kK ?kd ?ku ?_; (case kj => with_reducible assumption); (case ke => walk_at "my_year"); walk_at "my_ret"); walk_at "my_after"))
section
variable {w : World} {p : Program} {loose : List Str} {mean : ExcName → Option Value} {mg mb : Str → Option Value}
end
local macro_rules | `(tactic| walk_at "call ref") => `(tactic| (k_here; (with_reducible show wpAny _ _ (call (Value.ref 429) _ _) _ _ _); k_dflt (refine' use_V (cj_tojdM ?kj ?ke ?kf) ?k1 ?k2 ?k3 ?k4 ?k5 ?kK ?kd ?ku ?_; (case kj => with_reducible assumption); (case ke => walk_at "my_year"); (case kf => walk_at "my_month"); walk_at "my_ret"); walk_at "my_after"))
section
variable {w : World} {p : Program} {loose : List Str} {mean : ExcName → Option Value} {mg mb : Str → Option Value}
end
local macro_rules | `(tactic| walk_at "call ref") => `(tactic| (k_here; (with_reducible show wpAny _ _ (call (Value.ref 429) [_, Value.int 1 _, _] _) _ _ _); k_dflt (refine' use_V (cj_tojd ?kj ?ke) ?k1 ?k2 ?k3 ?k4 ?k5 ?kK ?kd ?ku ?_; (case kj => with_reducible assumption); (case ke => walk_at "my_year"); walk_at "my_ret"); walk_at "my_after"))
section
variable {w : World} {p : Program} {loose : List Str} {mean : ExcName → Option Value} {mg mb : Str → Option Value}
end
local macro_rules | `(tactic| walk_at "binaryOp Mod float int") => `(tactic| (k_here; k_dflt ((with_reducible refine' r_mod_fi4 ?kx ?ka ?kb ?_); (case kx => walk_at "my_fq"); (case ka => decide); (case kb => decide); intro r9 q9)))
section
variable {w : World} {p : Program} {loose : List Str} {mean : ExcName → Option Value} {mg mb : Str → Option Value}
end
local macro_rules | `(tactic| walk_at "binaryOp Div float int") => `(tactic| (k_here; k_dflt ((with_reducible refine' r_div_fi4 ?kx ?ka ?kb ?kc ?_); (case kx => walk_at "my_fq"); (case ka => decide); (case kb => decide); (case kc => omega); intro r9 q9)))
section
variable {w : World} {p : Program} {loose : List Str} {mean : ExcName → Option Value} {mg mb : Str → Option Value}
end
local macro_rules | `(tactic| walk_at "binaryOp Sub float float") => `(tactic| (k_here; k_dflt (first
  | ((with_reducible refine' r_sub_dn ?kj ?kx ?ka ?kb ?_); (case kj => with_reducible assumption); (case kx => walk_at "my_fq"); (case ka => walk_at "my_fq"); (case kb => omega); intro r9 q9)
  | ((with_reducible refine' r_sub_p ?kj ?kx ?ka ?kb ?_); (case kj => with_reducible assumption); (case kx => walk_at "my_fq"); (case ka => walk_at "my_fq"); (case kb => omega); intro r9 q9)
  | ((with_reducible refine' r_sub_d ?kj ?kx ?ka ?kb ?_); (case kj => with_reducible assumption); (case kx => walk_at "my_fq"); (case ka => walk_at "my_fq"); (case kb => omega); intro r9 q9))))
section
variable {w : World} {p : Program} {loose : List Str} {mean : ExcName → Option Value} {mg mb : Str → Option Value}
set_option maxHeartbeats 2000000 in
theorem c_fromjd {y m d q dn : Int} {x : UInt64} {t : Tok} (mk : J y m d q dn) (hx : FQ x (4 * (1721425 + dn) + 2)) :
    SpecT w p loose mean mg mb 7 436 [.float x t] (IsTriple y m d) := by
  have hb := mk.pb2
  have hc := mk.dnb
  have hy1 := mk.hy1
  have hy2 := mk.hy2
  have h1 := mk.h1
  have h2 := mk.h2
  have h3 := mk.h3
  have h5 := mk.h5
  have hp := mk.hp
  have hdn := mk.hd
  have hc1 := cumF_1 (leapB y)
  unfold SpecT
  k_fill
  intro dp un gd cn cs a ccd cl outer A₀ base h₀ L m news s Q E B F X N T hk hd hu hret
  refine wpAny_call ?_
  k_dflt cell_enter
  k_steps
  all_goals (refine' retT hret ?_ ?F ?N ?l; (case F => assumption); (case N => assumption); (case l => assumption))
  all_goals (refine isTriple_of (by walk_at "my_year") (by walk_at "my_month") (by omega))
end

theorem off_A3 : True := by
  w_top off
  trivial
section
def lpJ (y : Int) : Bool := decide (y % 4 = 0)
def jJ (y m d : Int) : Int := 4 * ((1461 * ((if m ≤ 2 then y - 1 else y) + 4716)) / 4 + ((if m ≤ 2 then m + 12 else m) + 1) * 306001 / 10000 + d) - 6098
structure GoodJ (z y m d : Int) : Prop where
  hy1 : -1200000 ≤ y
  hy2 : y ≤ 1200000
  h1 : 1 ≤ m
  h2 : m ≤ 12
  h3 : 1 ≤ d
  h4 : d ≤ mlen (lpJ y) m
  h5 : d ≤ 31
  hj : jJ y m d = 4 * z + 2
theorem parts_k {b c : Int} (hc : c = (4 * b - 489) / 1461) : 123 ≤ b - 1461 * c / 4 ∧ b - 1461 * c / 4 ≤ 488 ∧ (b - 1461 * c / 4 = 488 → c % 4 = 3) := by omega
theorem e_range {k e : Int} (h1 : 123 ≤ k) (h2 : k ≤ 488) (he : e = k * 10000 / 306001) : 4 ≤ e ∧ e ≤ 15 := by omega
/-- e from 4 to 13: the months 3 to 12 -/
theorem d_low {k e : Int} (h1 : 4 ≤ e) (h2 : e ≤ 15) (he : e = k * 10000 / 306001) : 1 ≤ k - e * 306001 / 10000 ∧ k - e * 306001 / 10000 ≤ 31 := by
  have : e = 4 ∨ e = 5 ∨ e = 6 ∨ e = 7 ∨ e = 8 ∨ e = 9 ∨ e = 10 ∨ e = 11 ∨ e = 12 ∨ e = 13 ∨ e = 14 ∨ e = 15 := by omega
  rcases this with h|h|h|h|h|h|h|h|h|h|h|h <;> subst h <;> omega
theorem fromJ_a {z b c k e : Int} (hz1 : -420000000 ≤ z) (hz2 : z ≤ 420000000) (hb : b = z + 1525) (hc : c = (4 * b - 489) / 1461) (hk : k = b - 1461 * c / 4) (he : e = k * 10000 / 306001) (h14 : e < 14) :
    GoodJ z (c - 4716) (e - 1) (k - e * 306001 / 10000) := by
  have P := parts_k hc
  rw [← hk] at P
  obtain ⟨p1, p2, p3⟩ := P
  have R := e_range p1 p2 he
  have DL := d_low R.1 R.2 he
  have c1 : -1150000 ≤ c ∧ c ≤ 1155000 := by omega
  refine ⟨by omega, by omega, by omega, by omega, DL.1, ?_, DL.2, ?_⟩
  · have : e = 4 ∨ e = 5 ∨ e = 6 ∨ e = 7 ∨ e = 8 ∨ e = 9 ∨ e = 10 ∨ e = 11 ∨ e = 12 ∨ e = 13 := by omega
    clear hz1 hz2 hb hc hk p3 R c1
    rcases this with h|h|h|h|h|h|h|h|h|h <;> subst h <;> simp [mlen] <;> omega
  · have q1 : ¬ e - 1 ≤ 2 := by omega
    unfold jJ
    rw [if_neg q1, if_neg q1]
    have q2 : c - 4716 + 4716 = c := by omega
    have q3 : e - 1 + 1 = e := by omega
    rw [q2, q3]
    omega
theorem fromJ_b {z b c k e : Int} (hz1 : -420000000 ≤ z) (hz2 : z ≤ 420000000) (hb : b = z + 1525) (hc : c = (4 * b - 489) / 1461) (hk : k = b - 1461 * c / 4) (he : e = k * 10000 / 306001) (h14 : ¬ e < 14) :
    GoodJ z (c - 4715) (e - 13) (k - e * 306001 / 10000) := by
  have P := parts_k hc
  rw [← hk] at P
  obtain ⟨p1, p2, p3⟩ := P
  have R := e_range p1 p2 he
  have DL := d_low R.1 R.2 he
  have c1 : -1150000 ≤ c ∧ c ≤ 1155000 := by omega
  refine ⟨by omega, by omega, by omega, by omega, DL.1, ?_, DL.2, ?_⟩
  · have : e = 14 ∨ e = 15 := by omega
    clear hz1 hz2 hb hc hk R c1
    rcases this with h|h <;> subst h
    · simp [mlen]; omega
    · by_cases hk8 : k = 488
      · have := p3 hk8
        have hl : lpJ (c - 4715) = true := by unfold lpJ; exact decide_eq_true (by omega)
        rw [hl]
        simp [mlen]; omega
      · simp only [mlen]
        split
        · split <;> omega
        · omega
  · have q1 : e - 13 ≤ 2 := by omega
    unfold jJ
    rw [if_pos q1, if_pos q1]
    have q2 : c - 4715 - 1 + 4716 = c := by omega
    have q3 : e - 13 + 12 + 1 = e := by omega
    rw [q2, q3]
    omega
/-- the first day of a Julian month, told by plain years -/
theorem jJ_first {y m : Int} {lp : Bool} (h1 : 1 ≤ m) (h2 : m ≤ 12) (hl : lp = true → y % 4 = 0) :
    jJ y m 1 = 4 * (1721424 + 365 * (y - 1) + (y - 1) / 4 + cumF lp m + (if m > 2 then (if y % 4 = 0 ∧ lp = false then 1 else 0) else 0)) - 2 := by
  have hm := m_twelve h1 h2
  have q := quots y
  have q' := quots (y - 1)
  have q2 : 1461 * (y - 1 + 4716) / 4 = 365 * (y - 1 + 4716) + ((y - 1) / 4 + 1179) := q'.1
  have q1 := q.1
  by_cases h4 : y % 4 = 0
  · have e4 : (y - 1) / 4 = y / 4 - 1 := by omega
    cases lp <;> rcases hm with h|h|h|h|h|h|h|h|h|h|h|h <;> subst h <;> simp [jJ, cumF, h4] <;> omega
  · have e4 : (y - 1) / 4 = y / 4 := by omega
    have : lp = false := by cases lp with | true => exact absurd (hl rfl) h4 | false => rfl
    subst this
    rcases hm with h|h|h|h|h|h|h|h|h|h|h|h <;> subst h <;> simp [jJ, cumF, h4] <;> omega

end
set_option maxRecDepth 100000
theorem off_C5 : True := by
  w_top off
  trivial

open PySem.Float64 (decode val)
theorem FB.neg {x : UInt64} {lo hi : Int} (hx : FB x lo hi) : FB (Float64.neg x) (-hi) (-lo) := by
  obtain ⟨⟨_, _, _, dx⟩, l, u⟩ := hx
  refine ⟨⟨_, _, _, Float64.neg_decode dx⟩, ?_, ?_⟩ <;> rw [Float64.neg_val dx, Int.neg_mul] <;> omega
theorem FB.addB {x y : UInt64} {lo hi lo' hi' : Int} (hx : FB x lo hi) (hy : FB y lo' hi') (h1 : (lo + lo').natAbs < 2 ^ 53) (h2 : (hi + hi').natAbs < 2 ^ 53) : FB (Float64.add x y) (lo + lo') (hi + hi') := by
  obtain ⟨⟨_, _, _, dx⟩, l, u⟩ := hx
  obtain ⟨⟨_, _, _, dy⟩, l', u'⟩ := hy
  obtain ⟨k0, k1⟩ := Float64.add_right dx dy
  have b1 : (lo + lo') * P ≤ val x + val y := by rw [Int.add_mul]; omega
  have b2 : val x + val y ≤ (hi + hi') * P := by rw [Int.add_mul]; omega
  by_cases c : val x + val y = 0
  · rw [k0 c]
    rw [c] at b1 b2
    exact ⟨(val_zero _).1, by rw [(val_zero _).2]; exact b1, by rw [(val_zero _).2]; exact b2⟩
  · have o : ((1 : Nat) : Int) = 1 := rfl
    obtain ⟨f, a, b⟩ := right_between (k1 c) (by decide) (fun q => by have := of_decide_eq_true q; omega) (fun q => by have := of_decide_eq_false q; omega) (rep_P h1) (rep_P h2)
      (by rw [o, Int.mul_one]; exact b1) (by rw [o, Int.mul_one]; exact b2)
    exact ⟨f, a, b⟩
theorem fb_122 : FB 4638292440600962662 1953 1954 := by
  have h : decode 4638292440600962662 = .fin false 8592023664092774 (-46) := by kernel_rfl
  have e : val 4638292440600962662 = ((8592023664092774 * 2 ^ 1028 : Nat) : Int) := by rw [Float64.val_eq h]; rfl
  refine ⟨⟨_, _, _, h⟩, ?_, ?_⟩ <;> rw [e] <;> unfold P <;> decide +kernel
def tab306b : Bool := (List.range 500).all fun k => k == 0 || ffb (Float64.div (Float64.ofInt (k : Int)) 4629306380116972641) ((k : Int) * 10000 / 306001)
theorem tab306b_ok : tab306b = true := by decide +kernel
theorem tab_div {k : Int} (h1 : 1 ≤ k) (h2 : k < 500) : FF (Float64.div (Float64.ofInt k) 4629306380116972641) (k * 10000 / 306001) := by
  obtain ⟨n, rfl⟩ := Int.eq_ofNat_of_zero_le (show 0 ≤ k by omega)
  have := List.all_eq_true.mp tab306b_ok n (List.mem_range.mpr (by omega))
  have hn : (n == 0) = false := by simp; omega
  rw [hn, Bool.false_or] at this
  exact ff_of this
theorem fin_306 : Fin' 4629306380116972641 := ⟨_, _, _, (by kernel_rfl : decode 4629306380116972641 = .fin false 8613162434843745 (-48))⟩
section
variable {prog : Program} {w : World} {A : Around} {E : Value → Shared → Prop} {s : Shared} {Q : Value → Shared → Prop} {t u : Tok}
theorem r_iadd_ff {x y : UInt64} {a b : Int} (hx : FQ x a) (hy : FQ y b) (hb : (a + b).natAbs < 2 ^ 53) (h : ∀ r, FQ r (a + b) → Q (.float r s.toks) { s with toks := s.toks + 1 }) : wpAny (model prog w) A (inplaceOp .Add (.float x t) (.float y u)) Q E s :=
  iadd_float (h _ (hx.add hy hb))
theorem r_sub_122 {n : Int} (hn : n.natAbs < 2 ^ 40) (h : ∀ r, FB r (16 * n - 1954) (16 * n - 1953) → Q (.float r s.toks) { s with toks := s.toks + 1 }) : wpAny (model prog w) A (binaryOp .Sub (.int n u) (.float 4638292440600962662 t)) Q E s := by
  have k := FB.addB (FQ.ofInt (i := n) (by omega)).fb fb_122.neg (by omega) (by omega)
  have e1 : 4 * (4 * n) + -1954 = 16 * n - 1954 := by omega
  have e2 : 4 * (4 * n) + -1953 = 16 * n - 1953 := by omega
  rw [e1, e2] at k
  exact sub_if_fits (Nat.lt_of_lt_of_le hn (Nat.pow_le_pow_right (by decide) (by decide))) (h _ (by unfold Float64.sub; exact k))
theorem r_div_365 {x : UInt64} {n : Int} (hx : FB x (16 * n - 1954) (16 * n - 1953)) (hn : n.natAbs < 2 ^ 30) (h : ∀ r, FF r ((4 * n - 489) / 1461) → Q (.float r s.toks) { s with toks := s.toks + 1 }) : wpAny (model prog w) A (binaryOp .Div (.float x t) (.float 4645133162144333824 u)) Q E s := by
  have hz : ¬ Float64.isZero 4645133162144333824 = true := by decide +kernel
  exact AutoFloatOps.truediv_1 hz (h _ (hx.ffDiv (q := (4 * n - 489) / 1461) fq_365 (by decide) (by decide) (by omega) (by omega) (by omega)))
theorem r_div_306 {k : Int} (h1 : 1 ≤ k) (h2 : k < 500) (h : ∀ r, FF r (k * 10000 / 306001) → Q (.float r s.toks) { s with toks := s.toks + 1 }) : wpAny (model prog w) A (binaryOp .Div (.int k u) (.float 4629306380116972641 t)) Q E s := by
  have hz : ¬ Float64.isZero 4629306380116972641 = true := by decide +kernel
  have hi : ¬ Float64.isInf (Float64.ofInt k) = true := by rw [(FQ.ofInt (i := k) (by omega)).notInf]; decide
  exact AutoFloatOps.truediv_if_2 hi hz (h _ (tab_div h1 h2))
end
section
variable {w : World} {p : Program} {loose : List Str} {mean : ExcName → Option Value} {mg mb : Str → Option Value}
end
local macro_rules | `(tactic| walk_at "inplaceOp Add float float") => `(tactic| (k_here; k_dflt ((with_reducible refine' r_iadd_ff ?kx ?ka ?kb ?_); (case kx => walk_at "my_fq"); (case ka => walk_at "my_fq"); (case kb => omega); intro r9 q9)))
section
variable {w : World} {p : Program} {loose : List Str} {mean : ExcName → Option Value} {mg mb : Str → Option Value}
end
local macro_rules | `(tactic| walk_at "binaryOp Sub int float") => `(tactic| (k_here; k_dflt ((with_reducible refine' r_sub_122 ?ka ?_); (case ka => omega); intro r9 q9)))
section
variable {w : World} {p : Program} {loose : List Str} {mean : ExcName → Option Value} {mg mb : Str → Option Value}
end
local macro_rules | `(tactic| walk_at "binaryOp Div float float") => `(tactic| (k_here; k_dflt ((with_reducible refine' r_div_365 ?kx ?ka ?_); (case kx => with_reducible assumption); (case ka => omega); intro r9 q9)))
section
variable {w : World} {p : Program} {loose : List Str} {mean : ExcName → Option Value} {mg mb : Str → Option Value}
end
local macro_rules | `(tactic| walk_at "binaryOp Div int float") => `(tactic| (k_here; k_dflt ((with_reducible refine' r_div_306 ?ka ?kb ?_); (case ka => omega); (case kb => omega); intro r9 q9)))
section
variable {w : World} {p : Program} {loose : List Str} {mean : ExcName → Option Value} {mg mb : Str → Option Value}
set_option maxHeartbeats 1000000 in
theorem c_leapJ (y : Int) (ty : Tok) : SpecV w p loose mean mg mb 1 451 [.int y ty] (fun r => r = .bool (lpJ y)) := by
  unfold SpecV
  k_fill
  intro dp un gd cn cs a ccd cl outer A₀ base h₀ L m news s Q E B F X N T hk hd hu hret
  refine wpAny_call ?_
  k_dflt cell_enter
  k_steps
  all_goals (refine retV hret ?_ (by assumption) (by assumption))
  all_goals rfl
end
local macro_rules | `(tactic| walk_at "call ref") => `(tactic| (k_here; (with_reducible show wpAny _ _ (call (Value.ref 451) _ _) _ _ _); k_dflt (refine' use_V (c_leapJ _ _) ?k1 ?k2 ?k3 ?k4 ?k5 ?kK ?kd ?ku ?_; walk_at "my_ret"); walk_at "my_after"))
section
variable {w : World} {p : Program} {loose : List Str} {mean : ExcName → Option Value} {mg mb : Str → Option Value}
end
local macro_rules | `(tactic| walk_at "my_boolJ") => `(tactic| (exfalso; first | contradiction | ((with_reducible rename (lpJ _ = true) => hq1); (with_reducible rename (lpJ _ = false) => hq2); exact absurd (hq1.symm.trans hq2) (by decide))))
section
variable {w : World} {p : Program} {loose : List Str} {mean : ExcName → Option Value} {mg mb : Str → Option Value}
set_option maxHeartbeats 1000000 in
theorem c_mlenJ (y m : Int) (ty tm : Tok) : SpecV w p loose mean mg mb 3 458 [.int y ty, .int m tm] (fun r => ∃ t, r = .int (mlen (lpJ y) m) t) := by
  unfold SpecV
  k_fill
  intro dp un gd cn cs a ccd cl outer A₀ base h₀ L m news s Q E B F X N T hk hd hu hret
  refine wpAny_call ?_
  k_dflt cell_enter
  k_steps
  all_goals (refine retV hret (ktn_int ?_) (by assumption) (by assumption))
  all_goals (simp only [mlen]; (repeat' split) <;> first | rfl | omega | walk_at "my_boolJ")
end
local macro_rules | `(tactic| walk_at "call ref") => `(tactic| (k_here; (with_reducible show wpAny _ _ (call (Value.ref 458) _ _) _ _ _); k_dflt (refine' use_V (c_mlenJ _ _ _ _) ?k1 ?k2 ?k3 ?k4 ?k5 ?kK ?kd ?ku ?_; walk_at "my_ret"); walk_at "my_after"))
section
variable {w : World} {p : Program} {loose : List Str} {mean : ExcName → Option Value} {mg mb : Str → Option Value}
set_option maxHeartbeats 1000000 in
theorem c_legalJ (y m d : Int) (ty tm td : Tok) (h3 : 1 ≤ d) (h4 : d ≤ mlen (lpJ y) m) : SpecV w p loose mean mg mb 5 465 [.int y ty, .int m tm, .int d td] (fun r => r = .bool true) := by
  unfold SpecV
  k_fill
  intro dp un gd cn cs a ccd cl outer A₀ base h₀ L m news s Q E B F X N T hk hd hu hret
  refine wpAny_call ?_
  k_dflt cell_enter
  k_steps
  all_goals (exact retV hret rfl (by assumption) (by assumption))
end
local macro_rules | `(tactic| walk_at "call ref") => `(tactic| (k_here; (with_reducible show wpAny _ _ (call (Value.ref 465) _ _) _ _ _); k_dflt (refine' use_V (c_legalJ _ _ _ _ _ _ ?kh1 ?kh2) ?k1 ?k2 ?k3 ?k4 ?k5 ?kK ?kd ?ku ?_; walk_at "my_ret"); (case kh1 => omega); (case kh2 => assumption); walk_at "my_after"))
section
variable {w : World} {p : Program} {loose : List Str} {mean : ExcName → Option Value} {mg mb : Str → Option Value}
set_option maxHeartbeats 1000000 in
theorem c_tojdJ (y m d : Int) (ty tm td : Tok) (hy1 : -1200000 ≤ y) (hy2 : y ≤ 1200000) (h1 : 1 ≤ m) (h2 : m ≤ 12) (h3 : 1 ≤ d) (h4 : d ≤ mlen (lpJ y) m) (h5 : d ≤ 31) : SpecV w p loose mean mg mb 7 479 [.int y ty, .int m tm, .int d td] (fun r => ∃ b t, r = .float b t ∧ FQ b (jJ y m d)) := by
  unfold SpecV
  k_fill
  intro dp un gd cn cs a ccd cl outer A₀ base h₀ L m news s Q E B F X N T hk hd hu hret
  refine wpAny_call ?_
  k_dflt cell_enter
  k_steps
  all_goals (refine retV hret ⟨_, _, rfl, FQ.cast (by with_reducible assumption) ?_⟩ (by assumption) (by assumption))
  all_goals (simp only [jJ]; (repeat' split) <;> first | rfl | omega)
set_option maxHeartbeats 1000000 in
theorem c_fromjdJ (z : Int) (x : UInt64) (t : Tok) (hz1 : -415000000 ≤ z) (hz2 : z ≤ 415000000) (hx : FQ x (4 * z + 2)) : SpecT w p loose mean mg mb 3 472 [.float x t] (fun o => ∃ y m d, IsTriple y m d o ∧ GoodJ z y m d) := by
  unfold SpecT
  k_fill
  intro dp un gd cn cs a ccd cl outer A₀ base h₀ L m news s Q E B F X N T hk hd hu hret
  refine wpAny_call ?_
  k_dflt cell_enter
  k_steps
  all_goals (refine' retT hret ?_ ?F ?N ?l; (case F => assumption); (case N => assumption); (case l => assumption))
  all_goals (refine ⟨_, _, _, isTriple_of rfl rfl rfl, ?_⟩)
  all_goals first | exact fromJ_a (by omega) (by omega) (by omega) rfl rfl rfl (by assumption) | exact fromJ_b (by omega) (by omega) (by omega) rfl rfl rfl (by assumption)
end

set_option maxRecDepth 100000
theorem off_D1 : True := by
  w_top off
  trivial
section
theorem d_mro : mroOf (.type "datetime.date") = pure [.type "datetime.date", .type "object"] := by rw [mroOf_type]; kernel_rfl
theorem d_lookup_new : typeLookup (.type "datetime.date") "__new__" = pure (some (.builtin "datetime.date.__new__")) := by rw [typeLookup_type, builtinLookup_eq_fast]; kernel_rfl
theorem d_slot_init : Slot "datetime.date" "__init__" "object.__init__" :=
  .of (owner := "object") (n := "__init__") (by rw [typeLookup_type, builtinLookup_eq_fast]; kernel_rfl) (by decide +kernel) (by decide +kernel) (by decide +kernel)
    (by first | exact .inl (by decide +kernel) | exact .inr (by decide +kernel)) (by rw [isSubtype_type]; kernel_rfl)
theorem d_sub : isSubtype (.type "datetime.date") (.type "datetime.date") = pure true := by rw [isSubtype_type]; kernel_rfl
theorem d_sub2 : isSubtype (.type "datetime.date") (.type "datetime.datetime") = pure false := by rw [isSubtype_type]; kernel_rfl
theorem d_called : TypeCalled "datetime.date" "datetime.date.__new__" "object.__init__" :=
  ⟨by decide +kernel, by decide +kernel, ⟨_, _, d_mro⟩, madeBy_type d_mro d_lookup_new (by decide +kernel), by decide +kernel, d_sub, d_slot_init⟩
theorem d_typeCall (a b c : Value) : checkTypeCall "datetime.date" ⟨[a, b, c], []⟩ = pure () := by kernel_rfl
theorem d_newCall (a b c : Value) : checkBuiltinCall "datetime.date.__new__" ⟨[.type "datetime.date", a, b, c], []⟩ = pure () := by kernel_rfl
theorem d_entry_new : entryFor table "datetime.date.__new__" = some Builtin.«datetime.date.__new__» := entryFor_of_tree (by kernel_rfl)
theorem d_initArgs (obj a b c : Value) : argsOk "object.__init__" ⟨[obj, a, b, c], []⟩ := by
  unfold argsOk; rw [signature?_of (id := "object.__init__") (n := ['_', '_', 't', 'i', 'n', 'i', '_', '_']) (o := ['t', 'c', 'e', 'j', 'b', 'o']) (by kernel_rfl) F.owner_object]; kernel_rfl
theorem d_slot_weekday : Slot "datetime.date" "weekday" "datetime.date.weekday" :=
  .of (owner := "datetime.date") (n := "weekday") (by rw [typeLookup_type, builtinLookup_eq_fast]; kernel_rfl) (by decide +kernel) (by decide +kernel) (by decide +kernel)
    (by first | exact .inl (by decide +kernel) | exact .inr (by decide +kernel)) (by rw [isSubtype_type]; kernel_rfl)
theorem d_entry_weekday : entryFor table "datetime.date.weekday" = some Builtin.«datetime.date.weekday» := entryFor_of_tree (by kernel_rfl)
theorem d_args_weekday (a : Value) : argsOk "datetime.date.weekday" ⟨[a], []⟩ := by
  unfold argsOk; kernel_rfl
def dateObj (y m d : Int) : Obj := { cls := .type "datetime.date", data := .fields #[rawInt y, rawInt m, rawInt d] }
theorem d_dim {y m : Int} (h3 : 1 ≤ m) (h4 : m ≤ 12) : 28 ≤ Builtin._datetime.daysInMonth y m := by
  have : m = 1 ∨ m = 2 ∨ m = 3 ∨ m = 4 ∨ m = 5 ∨ m = 6 ∨ m = 7 ∨ m = 8 ∨ m = 9 ∨ m = 10 ∨ m = 11 ∨ m = 12 := by omega
  unfold Builtin._datetime.daysInMonth
  rcases this with h|h|h|h|h|h|h|h|h|h|h|h <;> subst h <;> (try split) <;> decide
set_option maxHeartbeats 4000000 in
theorem d_new_meets {y m d : Int} (t u v : Tok) (h1 : 1 ≤ y) (h2 : y ≤ 9999) (h3 : 1 ≤ m) (h4 : m ≤ 12) (h5 : 1 ≤ d) (h6 : d ≤ 28) :
    Meets (Builtin.«datetime.date.__new__» ⟨[.type "datetime.date", .int y t, .int m u, .int d v], []⟩) (fun _ R s => R (.ok (.ret (Value.ref s.heap.objs.size))) { s with heap := s.heap.push (dateObj y m d) }) :=
  .of_wp fun prog w A R s h => by
    obtain ⟨hp, g, dd, tk, os⟩ := s
    have f1 := d_sub
    have f2 := d_sub2
    have f3 := d_dim (y := y) h3 h4
    repeat (first | wp_step | (with_reducible refine PySem.wpAny_ite_false (decide_eq_false ?hc) ?_; (case hc => ((try simp only [Bool.or_eq_true, decide_eq_true_eq]); omega))))
    exact ⟨_, rfl, h⟩

end
set_option maxRecDepth 100000
theorem off_D2 : True := by
  w_top off
  trivial
section
theorem d_plain : PlainAttrs "datetime.date" :=
  ⟨⟨"object.__getattribute__", by rw [typeLookup_type, builtinLookup_eq_fast]; kernel_rfl, by decide +kernel⟩, by rw [typeLookup_type, builtinLookup_eq_fast]; kernel_rfl⟩
theorem d_type_weekday : typeOf (.builtin "datetime.date.weekday") = pure (.type "method_descriptor") := by show builtinType _ = _; rw [builtinType_eq_fast]; kernel_rfl
set_option maxHeartbeats 4000000 in
theorem d_weekday_meets {y m d : Int} (D : Addr) :
    Meets (Builtin.«datetime.date.weekday» ⟨[.ref D], []⟩) (fun _ R s => s.heap.get? D = some (dateObj y m d) ∧ R (.ok (.ret (Value.int (Builtin._datetime.weekdayOf (Builtin._datetime.toOrdinal y m d)) s.toks))) { s with toks := s.toks + 1 }) :=
  .of_wp fun prog w A R s h => by
    obtain ⟨hp, g, dd, tk, os⟩ := s
    obtain ⟨ho, h⟩ := h
    unfold dateObj at ho
    have f1 := d_sub
    have hT : (⟨hp, g, dd, tk, os⟩ : Shared).TypeIs (.ref D) "datetime.date" := ⟨_, ho, rfl⟩
    wp_walk
    exact ⟨_, rfl, h⟩
section
variable {prog : Program} {w : World} {A : Around} {E : Value → Shared → Prop} {s : Shared} {h₀ : Heap} {L : Addr} {mm : Str → Option Value} {news : List (Addr × Obj)} {D : Addr} {y m d : Int} {t u v : Tok}
theorem r_date {Q : Value → Shared → Prop} (F : Fr h₀ L s.heap mm) (N : News h₀ L s.heap news) (h1 : 1 ≤ y) (h2 : y ≤ 9999) (h3 : 1 ≤ m) (h4 : m ≤ 12) (h5 : 1 ≤ d) (h6 : d ≤ 28)
    (h : ∀ D h', Fr h₀ L h' mm → News h₀ L h' ((D, dateObj y m d) :: news) → (∀ p ∈ news, p.1 < D) → Q (.ref D) { s with heap := h' }) :
    wpAny (model prog w) A (call (.type "datetime.date") [.int y t, .int m u, .int d v]) Q E s :=
  callType_new d_called (by decide) (d_typeCall _ _ _) (d_newCall _ _ _) (fun _ => d_initArgs _ _ _ _) d_entry_new (d_new_meets t u v h1 h2 h3 h4 h5 h6)
    ⟨⟨_, Heap.get?_push_size _ rfl, rfl⟩, h _ _ (F.push _) (N.push F _ rfl) fun _ hp => Heap.lt_size (N _ hp).1⟩
theorem r_weekday_m {pl : Sem Bool} {Q : Value × List Value → Shared → Prop} (N : News h₀ L s.heap news) (hm : (D, dateObj y m d) ∈ news)
    (h : Q (.builtin "datetime.date.weekday", [.ref D]) s) : wpAny (model prog w) A (getMethod (.ref D) (Str.ofString "weekday") pl) Q E s :=
  getMethod_builtin ⟨_, (N _ hm).1, rfl⟩ d_plain d_slot_weekday d_type_weekday (fun a e => by cases e; exact ⟨_, (N _ hm).1, rfl⟩) h
theorem r_weekday_c {Q : Value → Shared → Prop} (N : News h₀ L s.heap news) (hm : (D, dateObj y m d) ∈ news)
    (h : Q (.int (Builtin._datetime.weekdayOf (Builtin._datetime.toOrdinal y m d)) s.toks) { s with toks := s.toks + 1 }) : wpAny (model prog w) A (call (.builtin "datetime.date.weekday") [.ref D]) Q E s :=
  call_meets d_slot_weekday ⟨_, (N _ hm).1, rfl⟩ d_entry_weekday (d_args_weekday _) (d_weekday_meets D) ⟨(N _ hm).1, h⟩
end

end
set_option maxRecDepth 100000
theorem off_D3 : True := by
  w_top off
  trivial
section
set_option maxHeartbeats 4000000 in
theorem int_sub_ref (x k : Int) (t tk0 : Tok) (D C : Addr) (dd : Option Addr) (sl : Array (Option Value)) :
    Meets (Builtin.«int.__sub__» ⟨[.int x t, .ref D], []⟩) (fun _ R s => s.heap.get? D = some ⟨.ref C, dd, .prim (.int k tk0), sl⟩ ∧ R (.ok (.ret (Value.int (x - k) s.toks))) { s with toks := s.toks + 1 }) :=
  .of_wp fun prog w A R s h => by
    obtain ⟨hp, g, d', tk, os⟩ := s
    obtain ⟨ho, h⟩ := h
    wp_walk
    exact ⟨_, rfl, h⟩
set_option maxHeartbeats 4000000 in
theorem int_eq_ref (x k : Int) (t tk0 : Tok) (D C : Addr) (dd : Option Addr) (sl : Array (Option Value)) :
    Meets (Builtin.«int.__eq__» ⟨[.ref D, .int x t], []⟩) (fun _ R s => s.heap.get? D = some ⟨.ref C, dd, .prim (.int k tk0), sl⟩ ∧ R (.ok (.ret (Value.bool (k == x)))) s) :=
  .of_wp fun prog w A R s h => by
    obtain ⟨hp, g, d', tk, os⟩ := s
    obtain ⟨ho, h⟩ := h
    wp_walk
    exact ⟨_, rfl, h⟩
section
variable {prog : Program} {w : World} {A : Around} {E : Value → Shared → Prop} {s : Shared} {Q : Value → Shared → Prop}
set_option maxHeartbeats 4000000 in
theorem r_sub_day {x k : Int} {t tk0 : Tok} {D C : Addr} {dd : Option Addr} {sl : Array (Option Value)}
    (hD : s.heap.get? D = some ⟨.ref C, dd, .prim (.int k tk0), sl⟩)
    (hfill : Looks (model prog w) s.heap (fillsNumberSlot (.ref C) "sub") true)
    (hsub : Looks (model prog w) s.heap (isSubtype (.ref C) (.type "int")) true)
    (hrefl : Looks (model prog w) s.heap (reflectedDiffers (.type "int") (.ref C) "sub") false)
    (h : Q (.int (x - k) s.toks) { s with toks := s.toks + 1 }) : wpAny (model prog w) A (binaryOp .Sub (.int x t) (.ref D)) Q E s := by
  obtain ⟨hp, g, d', tk, os⟩ := s
  dsimp only at hD hfill hsub hrefl h
  have hTa : (⟨hp, g, d', tk, os⟩ : Shared).TypeIs (.int x t) "int" := typeIs_int _ x t
  have hTy : Looks (model prog w) hp (typeOf (.ref D)) (.ref C) := (Looks.ld hD).andThen .now
  have f1 : fillsNumberSlot (.type "int") "sub" = pure true := F.fills_int_sub
  unfold binaryOp
  refine wpAny_holding ?_
  show wpAny _ _ (binaryOp1 "sub" _ _ >>= _) _ _ _
  refine wpAny_bind ?_
  unfold binaryOp1
  refine wpAny_bind (wpAny_typeOf hTa ?_)
  refine wpAny_bind (hTy _ _ _ _ (fun _ _ e => e) ?_)
  refine wpAny_bind (wpAny_of_eq f1 ?_)
  have q1 : wpAny (model prog w) A (tryMethod (.int x t) (PySem.dunder "sub") (.ref D)) (fun r s' => r = some (.int (x - k) tk) ∧ s' = ⟨hp, g, d', tk + 1, os⟩) E ⟨hp, g, d', tk, os⟩ := by
    unfold tryMethod
    refine wpAny_bind ?_
    with_reducible refine wpAny_callSpecial?_slot hTa F.slot_int_sub ?_
    with_reducible refine call_meets F.slot_int_sub hTa F.entry_int_sub (F.args_int_sub_2 _ _) (int_sub_ref x k t tk0 D C dd sl) ?_
    refine ⟨hD, ?_⟩
    exact wpAny_pure ⟨rfl, rfl⟩
  repeat (first
    | (with_reducible refine Looks.at hfill ?_)
    | (with_reducible refine Looks.at hsub ?_)
    | (with_reducible refine Looks.at hrefl ?_)
    | (with_reducible refine wpAny_mono q1 ?_ (fun _ _ e => e); rintro _ _ ⟨rfl, rfl⟩)
    | wp_step)
  exact h
theorem call_eq_ref {x k : Int} {t tk0 : Tok} {D C : Addr} {dd : Option Addr} {sl : Array (Option Value)}
    (hD : s.heap.get? D = some ⟨.ref C, dd, .prim (.int k tk0), sl⟩)
    (hinst : Looks (model prog w) s.heap (isInstance (.ref D) (.type "int")) true)
    (h : Q (.bool (k == x)) s) : wpAny (model prog w) A (call (.builtin "int.__eq__") [.ref D, .int x t]) Q E s :=
  wpAny_call (codeAny_call_builtin F.slot_int_eq.plain F.entry_int_eq (check_slot (owner := "int") (n := "__eq__") (by decide +kernel) (by decide +kernel) hinst (F.args_int_eq_2 _ _)
    (int_eq_ref x k t tk0 D C dd sl prog w A (wants Q E) s ⟨hD, h⟩)))
set_option maxHeartbeats 4000000 in
theorem r_eq_month {x k : Int} {t tk0 : Tok} {D C : Addr} {dd : Option Addr} {sl : Array (Option Value)}
    (hu : A.units < cLine) (hD : s.heap.get? D = some ⟨.ref C, dd, .prim (.int k tk0), sl⟩)
    (hsub : Looks (model prog w) s.heap (isSubtype (.ref C) (.type "int")) true)
    (hsp : Looks (model prog w) s.heap (specialOf (.ref D) "__eq__") (some (.builtin "int.__eq__")))
    (hinst : Looks (model prog w) s.heap (isInstance (.ref D) (.type "int")) true)
    (h : Q (.bool (decide (x = k))) s) : wpAny (model prog w) A (compareOp .Eq (.int x t) (.ref D)) Q E s := by
  have e : (k == x) = decide (x = k) := by rw [Bool.eq_iff_iff]; simp; exact eq_comm
  obtain ⟨hp, g, d', tk, os⟩ := s
  dsimp only at hD hsub hsp hinst h
  have hTa : (⟨hp, g, d', tk, os⟩ : Shared).TypeIs (.int x t) "int" := typeIs_int _ x t
  have hTy : Looks (model prog w) hp (typeOf (.ref D)) (.ref C) := (Looks.ld hD).andThen .now
  refine cmp_ofEq ?_
  have q1 : wpAny (model prog w) A (tryCompare (.ref D) "__eq__" (.int x t)) (fun r s' => r = some (.bool (decide (x = k))) ∧ s' = ⟨hp, g, d', tk, os⟩) E ⟨hp, g, d', tk, os⟩ := by
    simp only [tryCompare, callSpecialIfBound?, bindSpecialIfBound?]
    refine wpAny_bind (wpAny_holding (wpAny_bind (wpAny_bind (Looks.at hsp ?_))))
    simp only [F.slot_int_eq.bind]
    refine wpAny_bind (wpAny_askSetting (wpAny_ite ?_))
    have fin : wpAny (model prog w) A (call (.builtin "int.__eq__") ([.ref D] ++ [.int x t]) >>= fun v => pure (some v)) (fun a s' => wpAny (model prog w) A (match a with | some .notImplemented | none => pure none | some v => pure (some v)) (fun r s' => r = some (.bool (decide (x = k))) ∧ s' = ⟨hp, g, d', tk, os⟩) E s') E ⟨hp, g, d', tk, os⟩ :=
      wpAny_bind (call_eq_ref hD hinst (wpAny_pure (wpAny_pure ⟨by rw [e], rfl⟩)))
    split
    · exact wpAny_bind (wpAny_pure (wpAny_pure fin))
    · exact wpAny_tryCatch (wpAny_bind (wpAny_pure (wpAny_pure fin)))
  have hone : oneThing? .Eq (.int x t) (.ref D) = none := hTa.oneThing_none _ _
  have hne : (Value.type "int" != Value.ref C) = true := by simp
  rcases hi : cmpInfo .Eq with ⟨sym, f, r⟩
  have hr : r = "__eq__" := by cases hi; rfl
  subst hr
  simp only [richCompare, hi, hone]
  refine wpAny_holding ?_
  refine wpAny_bind (wpAny_cRoomFor hu ?_)
  refine wpAny_bind (wpAny_typeOf hTa (wpAny_bind (Looks.at hTy ?_)))
  simp only [hne, if_true, pure_bind]
  refine wpAny_bind (Looks.at hsub ?_)
  simp only [if_true]
  refine wpAny_bind (wpAny_mono q1 ?_ (fun _ _ e => e))
  rintro _ _ ⟨rfl, rfl⟩
  refine wpAny_bind (wpAny_rule ?_)
  exact wpAny_pure h
end

end
set_option maxRecDepth 100000
theorem off_D4 : True := by
  w_top off
  trivial
section
/-- the number of the weekday of the first of a month, Monday 0 -/
def wkd (y m : Int) : Int := (dby y + cumF (leapB y) m) % 7
theorem leap_time (y : Int) : Builtin.Time.timeIsLeap y = leapB y := by
  unfold Builtin.Time.timeIsLeap leapB
  by_cases h4 : y % 4 = 0 <;> by_cases h1 : y % 100 = 0 <;> by_cases h0 : y % 400 = 0 <;> simp [h4, h1, h0]
theorem before_cum {lp : Bool} {m : Int} (h1 : 1 ≤ m) (h2 : m ≤ 12) : Builtin.Time.timeDaysBefore lp m = cumF lp m := by
  have hm := m_twelve h1 h2
  cases lp <;> rcases hm with h|h|h|h|h|h|h|h|h|h|h|h <;> subst h <;> decide
theorem wkd_date {y m : Int} (h1 : 1 ≤ m) (h2 : m ≤ 12) : Builtin._datetime.weekdayOf (Builtin._datetime.toOrdinal y m 1) = wkd y m := by
  unfold Builtin._datetime.weekdayOf Builtin._datetime.toOrdinal wkd dby
  simp only [leap_time, before_cum h1 h2]
  omega
theorem leap_400 {y : Int} : leapB (2000 + y % 400) = leapB y := by
  unfold leapB
  have e1 : (2000 + y % 400) % 4 = y % 4 := by omega
  have e2 : (2000 + y % 400) % 100 = y % 100 := by omega
  have e3 : (2000 + y % 400) % 400 = y % 400 := by omega
  rw [e1, e2, e3]
theorem wkd_400 {y m : Int} : wkd (2000 + y % 400) m = wkd y m := by
  unfold wkd
  rw [leap_400]
  have e : dby (2000 + y % 400) = dby y + 146097 * (5 - y / 400) := by
    unfold dby
    have a1 : (2000 + y % 400 - 1) / 4 = (y - 1) / 4 + 100 * (5 - y / 400) := by omega
    have a2 : (2000 + y % 400 - 1) / 100 = (y - 1) / 100 + 4 * (5 - y / 400) := by omega
    have a3 : (2000 + y % 400 - 1) / 400 = (y - 1) / 400 + (5 - y / 400) := by omega
    rw [a1, a2, a3]
    omega
  rw [e]
  omega
theorem wkd_b (y m : Int) : 0 ≤ wkd y m ∧ wkd y m < 7 := by unfold wkd; omega
theorem wkd_law {y m : Int} : (1721426 + dby y + cumF (leapB y) m) % 7 = wkd y m := by unfold wkd; omega
/-- D is the member of Day with the value k -/
def IsDay (w : World) (D : Addr) (k : Int) : Prop := ∃ dd tk0 sl, (hd.heap_39 w.params).lookup D = some ⟨.ref 300, dd, .prim (.int k tk0), sl⟩
def mdn (m : Int) : Int := mlen false m
section
variable {prog : Program} {w : World} {A : Around} {E : Value → Shared → Prop} {s : Shared} {Q : Value → Shared → Prop} {h₀ : Heap} {L : Addr} {mm : Str → Option Value} {t u : Tok}
theorem r_sub_dayK {D : Addr} {x k : Int} (F : Fr h₀ L s.heap mm) (X₀ : (hd.heap_39 w.params).In h₀) (d : IsDay w D k) (h : Q (.int (x - k) s.toks) { s with toks := s.toks + 1 }) :
    wpAny (model prog w) A (binaryOp .Sub (.int x t) (.ref D)) Q E s := by
  obtain ⟨dd, tk0, sl, hl⟩ := d
  have X := X₀.keeps F.keep
  exact r_sub_day (X _ _ hl) (Looks.of_peek X (by kernel_rfl)) (looks_subIn X (by kernel_rfl)) (Looks.of_peek X (by kernel_rfl)) h
theorem r_feb {x : Int} (F : Fr h₀ L s.heap mm) (X₀ : (hd.heap_39 w.params).In h₀) (hu : A.units < cLine) (h : Q (.bool (decide (x = 2))) s) :
    wpAny (model prog w) A (compareOp .Eq (.int x t) (.ref 319)) Q E s := by
  have X := X₀.keeps F.keep
  have hl : ∃ dd tk0 sl, (hd.heap_39 w.params).lookup 319 = some ⟨.ref 190, dd, .prim (.int 2 tk0), sl⟩ := ⟨_, _, _, rfl⟩
  obtain ⟨dd, tk0, sl, hl⟩ := hl
  exact r_eq_month hu (X _ _ hl) (looks_subIn X (by kernel_rfl)) (looks_specialIn X (by kernel_rfl)) (looks_instIn X (by kernel_rfl)) h
theorem days_all (w : World) : IsDay w 352 0 ∧ IsDay w 355 1 ∧ IsDay w 358 2 ∧ IsDay w 361 3 ∧ IsDay w 364 4 ∧ IsDay w 367 5 ∧ IsDay w 370 6 :=
  ⟨⟨_, _, _, rfl⟩, ⟨_, _, _, rfl⟩, ⟨_, _, _, rfl⟩, ⟨_, _, _, rfl⟩, ⟨_, _, _, rfl⟩, ⟨_, _, _, rfl⟩, ⟨_, _, _, rfl⟩⟩
theorem r_days {value slice : PySem.Expr} {k : Int} (F : Fr h₀ L s.heap mm) (X₀ : (hd.heap_39 w.params).In h₀) (h0 : 0 ≤ k) (h7 : k < 7) (h : ∀ D, IsDay w D k → Q (.ref D) s)
    (hs : subscripted slice false (.ref 371) (.int k u) = operate [.ref 371, .int k u] (getItem (.ref 371) (.int k u)) := by with_unfolding_all rfl) :
    wpAny (model prog w) A (subscriptTail value slice (.ref 371) (.int k u)) Q E s := by
  obtain ⟨d0, d1, d2, d3, d4, d5, d6⟩ := days_all w
  have hl : ∃ dd n sl, (hd.heap_39 w.params).lookup 371 = some ⟨.type "tuple", dd, .seq ([.ref 352, .ref 355, .ref 358, .ref 361, .ref 364, .ref 367, .ref 370] : List Value).toArray n, sl⟩ := ⟨_, _, _, rfl⟩
  obtain ⟨dd, n, sl, hl⟩ := hl
  have : k = 0 ∨ k = 1 ∨ k = 2 ∨ k = 3 ∨ k = 4 ∨ k = 5 ∨ k = 6 := by omega
  rcases this with e | e | e | e | e | e | e <;> subst e
  · exact topTup_K F X₀ hl (by decide) (by decide) rfl rfl (h _ d0) hs
  · exact topTup_K F X₀ hl (by decide) (by decide) rfl rfl (h _ d1) hs
  · exact topTup_K F X₀ hl (by decide) (by decide) rfl rfl (h _ d2) hs
  · exact topTup_K F X₀ hl (by decide) (by decide) rfl rfl (h _ d3) hs
  · exact topTup_K F X₀ hl (by decide) (by decide) rfl rfl (h _ d4) hs
  · exact topTup_K F X₀ hl (by decide) (by decide) rfl rfl (h _ d5) hs
  · exact topTup_K F X₀ hl (by decide) (by decide) rfl rfl (h _ d6) hs
theorem r_mdays {value slice : PySem.Expr} {m : Int} (F : Fr h₀ L s.heap mm) (X₀ : (hd.heap_39 w.params).In h₀) (h1 : 1 ≤ m) (h2 : m ≤ 12) (h : ∀ t, Q (.int (mdn m) t) s)
    (hs : subscripted slice false (.ref 372) (.int m u) = operate [.ref 372, .int m u] (getItem (.ref 372) (.int m u)) := by with_unfolding_all rfl) :
    wpAny (model prog w) A (subscriptTail value slice (.ref 372) (.int m u)) Q E s := by
  have hl : ∃ dd n sl t0 t1 t2 t3 t4 t5 t6 t7 t8 t9 ta tb tc, (hd.heap_39 w.params).lookup 372 = some ⟨.type "list", dd, .seq ([.int 0 t0, .int 31 t1, .int 28 t2, .int 31 t3, .int 30 t4, .int 31 t5, .int 30 t6, .int 31 t7, .int 31 t8, .int 30 t9, .int 31 ta, .int 30 tb, .int 31 tc] : List Value).toArray n, sl⟩ := ⟨_, _, _, _, _, _, _, _, _, _, _, _, _, _, _, _, rfl⟩
  obtain ⟨dd, n, sl, t0, t1, t2, t3, t4, t5, t6, t7, t8, t9, ta, tb, tc, hl⟩ := hl
  have hm := m_twelve h1 h2
  rcases hm with e | e | e | e | e | e | e | e | e | e | e | e <;> subst e <;> exact topList_K F X₀ hl (by decide) (by decide) rfl (h _) hs
theorem r_weekday_wk {news : List (Addr × Obj)} {D : Addr} {y m z : Int} (N : News h₀ L s.heap news) (hm : (D, dateObj y m 1) ∈ news) (h1 : 1 ≤ m) (h2 : m ≤ 12) (e : wkd y m = z)
    (h : Q (.int z s.toks) { s with toks := s.toks + 1 }) : wpAny (model prog w) A (call (.builtin "datetime.date.weekday") [.ref D]) Q E s :=
  r_weekday_c N hm (by rw [wkd_date h1 h2, e]; exact h)
end

end
set_option maxRecDepth 100000
theorem off_C6 : True := by
  w_top off
  trivial

def IsMR (w : World) (k n : Int) (o : Obj) : Prop := ∃ D t, IsDay w D k ∧ o = { cls := .type "tuple", data := .seq #[.ref D, .int n t] }
theorem isMR_of {w : World} {D : Addr} {t : Tok} {k n n' : Int} (d : IsDay w D k) (h : n' = n) : IsMR w k n { cls := .type "tuple", data := .seq #[.ref D, .int n' t] } := ⟨D, t, d, by rw [h]⟩
theorem news_mid {h₀ h : Heap} {L : Addr} {a b : Addr × Obj} {news : List (Addr × Obj)} (N : News h₀ L h (a :: b :: news)) : News h₀ L h (a :: news) :=
  cb_drop N fun p hp => (List.mem_cons.mp hp).elim (fun e => e ▸ .head _) fun h => .tail _ (.tail _ h)
theorem lt_all {d x : Addr} {news : List (Addr × Obj)} (h : @LT.lt Nat _ x d ∧ AllLt d news) : ∀ q ∈ news, q.1 < d := ktn_ltOf h.2
theorem mdn_a {lp : Bool} {m : Int} (h : m = 2) : mdn m + (if lp = true then 1 else 0) = mlen lp m := by
  subst h; cases lp <;> decide
theorem mdn_b {lp : Bool} {m : Int} (h : ¬ m = 2) : mdn m + (if decide (m = 2) = true then 1 else 0) = mlen lp m := by
  simp [mdn, mlen, h]
section
variable {w : World} {p : Program} {loose : List Str} {mean : ExcName → Option Value} {mg mb : Str → Option Value}
end
local macro_rules | `(tactic| walk_at "call type:datetime.date") => `(tactic| (k_here; k_dflt (refine' r_date ?F ?N ?ka ?kb ?kc ?kd ?ke ?kf ?_; (case F => k_asm); (case N => k_asm); (case ka => omega); (case kb => omega); (case kc => omega); (case kd => omega); (case ke => decide); (case kf => decide)); intro D' h' F' N' l1; (try k_lt l1)))
section
variable {w : World} {p : Program} {loose : List Str} {mean : ExcName → Option Value} {mg mb : Str → Option Value}
end
local macro_rules | `(tactic| walk_at "getMethod ref") => `(tactic| (k_here; (with_reducible show wpAny _ _ (getMethod (Value.ref _) (PySem.Str.ofString "weekday") _) _ _ _); k_dflt (refine' r_weekday_m ?N ?m ?_; (case N => k_asm); (case m => k_mem))))
section
variable {w : World} {p : Program} {loose : List Str} {mean : ExcName → Option Value} {mg mb : Str → Option Value}
end
local macro_rules | `(tactic| walk_at "call builtin:datetime.date.weekday") => `(tactic| (k_here; k_dflt (refine' r_weekday_wk ?N ?m ?ka ?kb ?ke ?_; (case N => k_asm); (case m => k_mem); (case ka => omega); (case kb => omega); (case ke => first | with_reducible exact wkd_400 | with_reducible exact rfl))))
section
variable {w : World} {p : Program} {loose : List Str} {mean : ExcName → Option Value} {mg mb : Str → Option Value}
end
local macro_rules | `(tactic| walk_at "subscriptTail") => `(tactic| (k_here; (with_reducible show wpAny _ _ (subscriptTail _ _ (Value.ref 371) (Value.int _ _)) _ _ _); (with_unfolding_all refine' r_days ?F ?X ?ka ?kb ?_ ?kh; (case F => k_asm); (case X => k_asm); (case ka => exact (wkd_b _ _).1); (case kb => exact (wkd_b _ _).2); (case kh => with_unfolding_all rfl)); intro D9 d9))
section
variable {w : World} {p : Program} {loose : List Str} {mean : ExcName → Option Value} {mg mb : Str → Option Value}
set_option maxHeartbeats 1000000 in
theorem c_weekday (y m : Int) (ty tm td : Tok) (h1 : 1 ≤ m) (h2 : m ≤ 12) (hy1 : -1200000 ≤ y) (hy2 : y ≤ 1200000) : SpecV w p loose mean mg mb 3 386 [.int y ty, .int m tm, .int 1 td] (fun r => ∃ D, r = .ref D ∧ IsDay w D (wkd y m)) := by
  unfold SpecV
  k_fill
  intro dp un gd cn cs a ccd cl outer A₀ base h₀ L m news s Q E B F X N T hk hd hu hret
  refine wpAny_call ?_
  k_dflt cell_enter
  k_steps
  all_goals (refine retV hret ⟨_, rfl, by assumption⟩ (by assumption) (cb_drop (news' := _ :: _) (by assumption) (fun _ h => List.mem_cons_of_mem _ h)))
end
local macro_rules | `(tactic| walk_at "call ref") => `(tactic| (k_here; (with_reducible show wpAny _ _ (call (Value.ref 386) _ _) _ _ _); k_dflt (refine' use_V (c_weekday _ _ _ _ _ ?kh1 ?kh2 ?kh3 ?kh4) ?k1 ?k2 ?k3 ?k4 ?k5 ?kK ?kd ?ku ?_; walk_at "my_ret"); (case kh1 => omega); (case kh2 => omega); (case kh3 => omega); (case kh4 => omega); walk_at "my_after"))
section
variable {w : World} {p : Program} {loose : List Str} {mean : ExcName → Option Value} {mg mb : Str → Option Value}
end
local macro_rules | `(tactic| walk_at "subscriptTail") => `(tactic| (k_here; (with_reducible show wpAny _ _ (subscriptTail _ _ (Value.ref 372) (Value.int _ _)) _ _ _); (with_unfolding_all refine' r_mdays ?F ?X ?ka ?kb ?_ ?kh; (case F => k_asm); (case X => k_asm); (case ka => omega); (case kb => omega); (case kh => with_unfolding_all rfl)); intro t9))
section
variable {w : World} {p : Program} {loose : List Str} {mean : ExcName → Option Value} {mg mb : Str → Option Value}
end
local macro_rules | `(tactic| walk_at "compareOp Eq int ref") => `(tactic| (k_here; k_dflt (refine' r_feb ?F ?X ?u ?_; (case F => k_asm); (case X => k_asm); (case u => ktr_units))))
section
variable {w : World} {p : Program} {loose : List Str} {mean : ExcName → Option Value} {mg mb : Str → Option Value}
end
local macro_rules | `(tactic| walk_at "binaryOp Sub int ref") => `(tactic| (k_here; k_dflt (refine' r_sub_dayK ?F ?X ?d ?_; (case F => k_asm); (case X => k_asm); (case d => assumption))))
section
variable {w : World} {p : Program} {loose : List Str} {mean : ExcName → Option Value} {mg mb : Str → Option Value}
set_option maxHeartbeats 1000000 in
theorem c_mrange (y m : Int) (ty tm : Tok) (h1 : 1 ≤ m) (h2 : m ≤ 12) (hy1 : -1200000 ≤ y) (hy2 : y ≤ 1200000) : SpecT w p loose mean mg mb 5 400 [.int y ty, .int m tm] (IsMR w (wkd y m) (mlen (leapB y) m)) := by
  unfold SpecT
  k_fill
  intro dp un gd cn cs a ccd cl outer A₀ base h₀ L m news s Q E B F X N T hk hd hu hret
  refine wpAny_call ?_
  k_dflt cell_enter
  k_steps
  all_goals (refine' retT hret ?_ ?F ?N ?l; (case F => assumption); (case N => assumption); (case l => assumption))
  all_goals (refine isMR_of (by assumption) ?_)
  all_goals first | (with_reducible exact mdn_a (by with_reducible assumption)) | (with_reducible exact mdn_b (by with_reducible assumption))
end
local macro_rules | `(tactic| walk_at "my_afterM") => `(tactic| (intro x9 o9 h9 tk9 P9 F9 N9 l9; (obtain ⟨D9, t9, d9, P9⟩ := P9; subst P9); (try k_lt l9); (try dsimp only); (try k_fold)))
section
variable {w : World} {p : Program} {loose : List Str} {mean : ExcName → Option Value} {mg mb : Str → Option Value}
end
local macro_rules | `(tactic| walk_at "call ref") => `(tactic| (k_here; (with_reducible show wpAny _ _ (call (Value.ref 400) _ _) _ _ _); k_dflt (refine' use_T (c_mrange _ _ _ _ ?kh1 ?kh2 ?kh3 ?kh4) ?k1 ?k2 ?k3 ?k4 ?k5 ?kK ?kd ?ku ?_; walk_at "my_ret"); (case kh1 => omega); (case kh2 => omega); (case kh3 => omega); (case kh4 => omega); k_dflt (walk_at "my_afterM")))
section
variable {w : World} {p : Program} {loose : List Str} {mean : ExcName → Option Value} {mg mb : Str → Option Value}
set_option maxHeartbeats 1000000 in
theorem c_mlen (y m : Int) (ty tm : Tok) (h1 : 1 ≤ m) (h2 : m ≤ 12) (hy1 : -1200000 ≤ y) (hy2 : y ≤ 1200000) : SpecV w p loose mean mg mb 7 443 [.int y ty, .int m tm] (fun r => ∃ t, r = .int (mlen (leapB y) m) t) := by
  unfold SpecV
  k_fill
  intro dp un gd cn cs a ccd cl outer A₀ base h₀ L m news s Q E B F X N T hk hd hu hret
  refine wpAny_call ?_
  k_dflt cell_enter
  k_steps
  all_goals (refine retV hret ⟨_, rfl⟩ (by assumption) (cb_drop (news' := _ :: _) (by assumption) (fun _ h => List.mem_cons_of_mem _ h)))
set_option maxHeartbeats 1000000 in
theorem c_nth (y m k : Int) (tn tk ty tm : Tok) (h1 : 1 ≤ m) (h2 : m ≤ 12) (hy1 : -1200000 ≤ y) (hy2 : y ≤ 1200000) (hk0 : k = wkd y m) (hb : 28 ≤ mlen (leapB y) m) : SpecT w p loose mean mg mb 7 407 [.int 1 tn, .int k tk, .int m tm, .int y ty] (IsTriple y m 1) := by
  have hkb := wkd_b y m
  unfold SpecT
  k_fill
  intro dp un gd cn cs a ccd cl outer A₀ base h₀ L m news s Q E B F X N T hk hd hu hret
  refine wpAny_call ?_
  k_dflt cell_enter
  k_steps
  all_goals (refine' retT hret ?_ ?F ?N ?l; (case F => assumption); (case N => exact news_mid (by assumption)); (case l => exact lt_all (by assumption)))
  all_goals (refine isTriple_of rfl rfl ?_)
  all_goals (subst hk0; omega)
end

set_option maxRecDepth 100000
theorem off_SE : True := by
  w_top off
  trivial

/-- as SpecV, but the call raises a ValueError -/
def SpecE (w : World) (p : Program) (loose : List Str) (mean : ExcName → Option Value) (mg mb : Str → Option Value) (k : Nat) (f : Addr) (vs : List Value) : Prop :=
  ∀ (dp un : Nat) (gd : Option (List Code)) (cn : Str) (cs : Scope) (a : Addr) (ccd : Value) (cl : List (Str × Addr)) (outer : List Env) (A₀ : Around) (base h₀ : Heap) (L : Addr) (m : Str → Option Value) (news : List (Addr × Obj)) (s : Shared) (Q E : Value → Shared → Prop),
    Below A₀ base outer h₀ → Fr h₀ L s.heap m → (hd.heap_39 w.params).In h₀ → News h₀ L s.heap news → Top p loose mean mg mb h₀ → cs.kind = .function → dp + k < recursionLimit → un + 8 * k < cLine →
    (∀ (e : Addr) (g h' : Heap) (tk' : Nat), Fr h₀ L g m → RaisedSN base g (envX cn cs L a ccd cl :: outer) e (.type "ValueError") news h' → g.UpToSlots h' → E (.ref e) { s with heap := h', toks := tk' }) →
    wpAny (model PySem.Challenge.rw_ad5027_01.row.prog w) (ktrTop dp un gd cn cs L a ccd cl outer) (call (.ref f) vs) Q E s
theorem use_E {w : World} {p : Program} {loose : List Str} {mean : ExcName → Option Value} {mg mb : Str → Option Value} {k : Nat} {f : Addr} {vs : List Value} {dp un : Nat} {gd : Option (List Code)} {cn : Str} {cs : Scope} {a : Addr} {ccd : Value} {cl : List (Str × Addr)} {outer : List Env} {A₀ : Around} {base h₀ : Heap} {L : Addr} {m : Str → Option Value} {news : List (Addr × Obj)} {s : Shared} {Q E : Value → Shared → Prop}
    (C : SpecE w p loose mean mg mb k f vs) (B : Below A₀ base outer h₀) (F : Fr h₀ L s.heap m) (X : (hd.heap_39 w.params).In h₀) (N : News h₀ L s.heap news) (T : Top p loose mean mg mb h₀) (hk : cs.kind = .function) (hd : dp + k < recursionLimit) (hu : un + 8 * k < cLine)
    (ret : ∀ (e : Addr) (g h' : Heap) (tk' : Nat), Fr h₀ L g m → RaisedSN base g (envX cn cs L a ccd cl :: outer) e (.type "ValueError") news h' → g.UpToSlots h' → E (.ref e) { s with heap := h', toks := tk' }) :
    wpAny (model PySem.Challenge.rw_ad5027_01.row.prog w) (ktrTop dp un gd cn cs L a ccd cl outer) (call (.ref f) vs) Q E s := C _ _ _ _ _ _ _ _ _ _ _ _ _ _ _ _ _ _ B F X N T hk hd hu ret
section
variable {w : World} {p : Program} {loose : List Str} {mean : ExcName → Option Value} {mg mb : Str → Option Value}
end
local macro_rules | `(tactic| walk_at "leaving ref") => `(tactic| (k_here; first
  | (refine' leave_newS ?k1 ?k0 ?k2 ?k3 ?_; (case k0 => assumption); (case k2 => assumption); (case k1 => assumption); (case k3 => k_asm); k_whole; intro h' S' R' U'; (try dsimp only at S' R' U' ⊢))
  | (refine' leave_onSN ?k1 ?k2 ?k3 ?k4 ?_; (case k3 => assumption); (case k2 => assumption); (case k1 => assumption); (case k4 => assumption); k_whole; intro h' S' R' U'; (try dsimp only at S' R' U' ⊢))))
section
variable {w : World} {p : Program} {loose : List Str} {mean : ExcName → Option Value} {mg mb : Str → Option Value}
set_option maxHeartbeats 1000000 in
theorem c_legalR (y m d : Int) (ty tm td : Tok) (h1 : 1 ≤ m) (h2 : m ≤ 12) (h3 : d = 0 ∨ d = mlen (leapB y) m + 1) (h5 : 0 ≤ d) (h6 : d ≤ 32) : SpecE w p loose mean mg mb 3 415 [.int y ty, .int m tm, .int d td] := by
  unfold SpecE
  k_fill
  intro dp un gd cn cs a ccd cl outer A₀ base h₀ L m news s Q E B F X N T hk hd hu hret
  refine wpAny_call ?_
  k_dflt cell_enter
  k_steps
  all_goals first
    | (refine' hret _ _ _ _ ?ra ?rb ?rc; (case rb => assumption); (case rc => assumption); (case ra => assumption))
    | (exfalso; simp only [mlen] at h3; (repeat' split at h3) <;> first | omega | contradiction | ((with_reducible rename (leapB _ = true) => hq1); (with_reducible rename (leapB _ = false) => hq2); exact absurd (hq1.symm.trans hq2) (by decide)))
end

set_option maxRecDepth 100000
theorem off_E1 : True := by
  w_top off
  trivial

section
variable {w : World} {p : Program} {loose : List Str} {mean : ExcName → Option Value} {mg mb : Str → Option Value}
end
local macro_rules | `(tactic| walk_at "my_afterE") => `(tactic| (intro e9 g9 h9 tk9 F9 R9 U9; (try dsimp only); (try k_fold)))
section
variable {w : World} {p : Program} {loose : List Str} {mean : ExcName → Option Value} {mg mb : Str → Option Value}
end
local macro_rules | `(tactic| walk_at "call ref") => `(tactic| (k_here; (with_reducible show wpAny _ _ (call (Value.ref 415) _ _) _ _ _); k_dflt (refine' use_E (c_legalR _ _ _ _ _ _ ?kh1 ?kh2 ?kh3 ?kh5 ?kh6) ?k1 ?k2 ?k3 ?k4 ?k5 ?kK ?kd ?ku ?_; (case kh3 => with_reducible assumption); walk_at "my_ret"); (case kh1 => omega); (case kh2 => omega); (case kh5 => omega); (case kh6 => omega); walk_at "my_afterE"))
section
variable {w : World} {p : Program} {loose : List Str} {mean : ExcName → Option Value} {mg mb : Str → Option Value}
set_option maxHeartbeats 1000000 in
theorem c_tojdR (y m d : Int) (ty tm td : Tok) (h1 : 1 ≤ m) (h2 : m ≤ 12) (h3 : d = 0 ∨ d = mlen (leapB y) m + 1) (h5 : 0 ≤ d) (h6 : d ≤ 32) : SpecE w p loose mean mg mb 5 429 [.int y ty, .int m tm, .int d td] := by
  unfold SpecE
  k_fill
  intro dp un gd cn cs a ccd cl outer A₀ base h₀ L m news s Q E B F X N T hk hd hu hret
  refine wpAny_call ?_
  k_dflt cell_enter
  k_steps
  all_goals (refine' hret _ _ _ _ ?ra ?rb ?rc; (case rb => assumption); (case rc => assumption); (case ra => assumption))
set_option maxHeartbeats 1000000 in
theorem c_tojd2R (y m d : Int) (ty tm td : Tok) (h1 : 1 ≤ m) (h2 : m ≤ 12) (h3 : d = 0 ∨ d = mlen (leapB y) m + 1) (h5 : 0 ≤ d) (h6 : d ≤ 32) : SpecE w p loose mean mg mb 5 422 [.int y ty, .int m tm, .int d td] := by
  unfold SpecE
  k_fill
  intro dp un gd cn cs a ccd cl outer A₀ base h₀ L m news s Q E B F X N T hk hd hu hret
  refine wpAny_call ?_
  k_dflt cell_enter
  k_steps
  all_goals (refine' hret _ _ _ _ ?ra ?rb ?rc; (case rb => assumption); (case rc => assumption); (case ra => assumption))
end

set_option maxRecDepth 100000
theorem off_J1 : True := by
  w_top off
  trivial
section
structure Hold (P : Prop) : Prop where
  out : P
section
variable {prog : Program} {w : World} {A : Around} {E : Value → Shared → Prop} {s : Shared} {env : Env} {h₀ : Heap} {L : Addr} {m : Str → Option Value} {news : List (Addr × Obj)}
def Joined (h₀ : Heap) (L : Addr) (m : Str → Option Value) (news : List (Addr × Obj)) (s : Shared) (f : Flow) (s' : Shared) : Prop :=
  f = .next ∧ ∃ h' tk', s' = { s with heap := h', toks := tk' } ∧ Fr h₀ L h' m ∧ News h₀ L h' news
theorem Joined.intro {h' : Heap} {tk' : Nat} {news' : List (Addr × Obj)} (F : Fr h₀ L h' m) (N : News h₀ L h' news') (hs : ∀ p ∈ news, p ∈ news') : Joined h₀ L m news s .next { s with heap := h', toks := tk' } :=
  ⟨rfl, h', tk', rfl, F, cb_drop N hs⟩
theorem join_exec {st : Stmt} {Q : Flow → Shared → Prop} (F : Fr h₀ L s.heap m) (N : News h₀ L s.heap news)
    (walk : wpAny (model prog w) A (exec st env) (Joined h₀ L m news s) E s)
    (go : ∀ h' tk', Fr h₀ L h' m → News h₀ L h' news → Q .next { s with heap := h', toks := tk' }) : wpAny (model prog w) A (exec st env) Q E s :=
  wpAny_mono walk (fun f s' j => by obtain ⟨rfl, h', tk', rfl, F', N'⟩ := j; exact go h' tk' F' N') (fun _ _ e => e)
/-- an expression whose value is of the kind P, the heap as it was up to new ones -/
def JoinedV (P : Value → Prop) (h₀ : Heap) (L : Addr) (m : Str → Option Value) (news : List (Addr × Obj)) (s : Shared) (v : Value) (s' : Shared) : Prop :=
  P v ∧ ∃ h' tk', s' = { s with heap := h', toks := tk' } ∧ Fr h₀ L h' m ∧ News h₀ L h' news
theorem JoinedV.intro {P : Value → Prop} {v : Value} {h' : Heap} {tk' : Nat} {news' : List (Addr × Obj)} (hp : P v) (F : Fr h₀ L h' m) (N : News h₀ L h' news') (hs : ∀ p ∈ news, p ∈ news') : JoinedV P h₀ L m news s v { s with heap := h', toks := tk' } :=
  ⟨hp, h', tk', rfl, F, cb_drop N hs⟩
theorem join_eval {e : PySem.Expr} {Q : Value → Shared → Prop} (P : Value → Prop) (F : Fr h₀ L s.heap m) (N : News h₀ L s.heap news)
    (walk : wpAny (model prog w) A (eval e env) (JoinedV P h₀ L m news s) E s)
    (go : ∀ v h' tk', P v → Fr h₀ L h' m → News h₀ L h' news → Q v { s with heap := h', toks := tk' }) : wpAny (model prog w) A (eval e env) Q E s :=
  wpAny_mono walk (fun v s' j => by obtain ⟨hp, h', tk', rfl, F', N'⟩ := j; exact go v h' tk' hp F' N') (fun _ _ e => e)
end

end
set_option maxRecDepth 100000
theorem off_R1 : True := by
  w_top off
  trivial

/-- what a call made in the law's own frame gives back, where the ledger opens with pre -/
def SpecL (w : World) (p : Program) (loose : List Str) (mean : ExcName → Option Value) (mg mb : Str → Option Value) (k : Nat) (f : Addr) (vs : List Value) (pre : List (Addr × Obj)) (Post : Value → Prop) : Prop :=
  ∀ (dp un : Nat) (gd : Option (List Code)) (cn : Str) (cs : Scope) (a : Addr) (ccd : Value) (A₀ : Around) (h₀ : Heap) (L : Addr) (m : Str → Option Value) (news : List (Addr × Obj)) (s : Shared) (Q E : Value → Shared → Prop),
    Below A₀ h₀ [] h₀ → Fr h₀ L s.heap m → (hd.heap_39 w.params).In h₀ → News h₀ L s.heap (pre ++ news) → Top p loose mean mg mb h₀ → cs.kind = .function → dp + k < recursionLimit → un + 8 * k < cLine →
    (∀ (r : Value) (h' : Heap) (tk' : Nat), Post r → Fr h₀ L h' m → News h₀ L h' (pre ++ news) → Q r { s with heap := h', toks := tk' }) →
    wpAny (model PySem.Challenge.rw_ad5027_01.row.prog w) (ktrTop dp un gd cn cs L a ccd [] []) (call (.ref f) vs) Q E s
theorem use_L {w : World} {p : Program} {loose : List Str} {mean : ExcName → Option Value} {mg mb : Str → Option Value} {k : Nat} {f : Addr} {vs : List Value} {pre : List (Addr × Obj)} {Post : Value → Prop} {dp un : Nat} {gd : Option (List Code)} {cn : Str} {cs : Scope} {a : Addr} {ccd : Value} {A₀ : Around} {h₀ : Heap} {L : Addr} {m : Str → Option Value} {news : List (Addr × Obj)} {s : Shared} {Q E : Value → Shared → Prop}
    (C : SpecL w p loose mean mg mb k f vs pre Post) (B : Below A₀ h₀ [] h₀) (F : Fr h₀ L s.heap m) (X : (hd.heap_39 w.params).In h₀) (N : News h₀ L s.heap news) (T : Top p loose mean mg mb h₀) (hk : cs.kind = .function) (hd : dp + k < recursionLimit) (hu : un + 8 * k < cLine) (sub : SubL pre news)
    (ret : ∀ (r : Value) (h' : Heap) (tk' : Nat), Post r → Fr h₀ L h' m → News h₀ L h' news → Q r { s with heap := h', toks := tk' }) :
    wpAny (model PySem.Challenge.rw_ad5027_01.row.prog w) (ktrTop dp un gd cn cs L a ccd [] []) (call (.ref f) vs) Q E s :=
  C _ _ _ _ _ _ _ _ _ _ _ news _ _ _ B F X (fun _ hq => (List.mem_append.mp hq).elim (fun h => N _ (sub.mem _ h)) (fun h => N _ h)) T hk hd hu
    (fun r h' tk' hp F' N' => ret r h' tk' hp F' (cb_drop N' fun _ hq => List.mem_append_right _ hq))
abbrev tup3 (y m d : Int) (t u v : Tok) : Obj := { cls := .type "tuple", data := .seq #[.int y t, .int m u, .int d v] }
abbrev epoObj (w : World) (b : UInt64) (tk te : Tok) : Obj := dictOf [{ hash := PyData.keyHash w.params (Str.ofString "epoch"), key := .str (Str.ofString "epoch") tk, val := .float b te }] 1
section
variable {M : Model} {A : Around} {E : Value → Shared → Prop} {s : Shared} {K : Frag} {env : Env} {pos q' : Pos} {first : List Value} {Q : Value → Shared → Prop} {h₀ : Heap} {e : PySem.Expr} {L q g : Addr} {self : Value} {news : List (Addr × Obj)}
theorem callWith_MS (_X : K.In h₀) (_N : News h₀ L s.heap news) (_q : (q, methodObj (.ref g) self) ∈ news) (hf : fnIn K g = true)
    (h : wpAny M A (eval e env) (fun v s₁ => StarOf M A E v (fun vs s₂ => MethP K q g self s₂.heap ∧ wpAny M A (call (.ref q) (first ++ vs)) Q E s₂) s₁) E s)
    (he : starEach [.Starred e q'] env = [(true, eval e env)] := by rfl) :
    wpAny M A (callWith pos (.ref q) first (backTo pos (starEach [.Starred e q'] env)) []) Q E s := by
  rw [he]
  exact ks_call rfl (keeps_M hf) (ks_lone h)
theorem methodCall_S {o : PySem.Expr} {name : Str} {apos pos : Pos} {args : List PySem.Expr} {Q : Value → Shared → Prop}
    (h : wpAny M A (eval o env) (fun ov s₁ => wpAny M A (getAttr ov name true) (fun f s₂ => wpAny M A (callWith pos f [] (backTo pos (starEach args env)) []) Q E s₂) E s₁) E s)
    (he : eval (.Call (.Attribute o name apos) args [] pos) env = (do
      let ov ← eval o env
      standAt apos.atName
      let (f, first) ← holding [ov] (do pure (← getAttr ov name true, []))
      callWith pos f first (backTo pos (starEach args env)) []) := by rfl) :
    wpAny M A (eval (.Call (.Attribute o name apos) args [] pos) env) Q E s := by
  rw [he]
  refine wpAny_bind (wpAny_mono h (fun ov s₁ h₁ => wpAny_bind (wpAny_standAt (wpAny_bind (wpAny_holding (wpAny_bind (wpAny_mono h₁ (fun fx s₂ h₂ => wpAny_pure ?_) fun _ _ x => x)))))) fun _ _ x => x)
  exact h₂
end
section
variable {w : World} {p : Program} {loose : List Str} {mean : ExcName → Option Value} {mg mb : Str → Option Value}
end
local macro_rules | `(tactic| walk_at "call ref") => `(tactic| (k_here; (with_reducible show wpAny _ _ (call (Value.ref 429) _ _) _ _ _); k_dflt (refine' use_E (c_tojdR _ _ _ _ _ _ ?kh1 ?kh2 ?kh3 ?kh5 ?kh6) ?k1 ?k2 ?k3 ?k4 ?k5 ?kK ?kd ?ku ?_; (case kh3 => with_reducible assumption); walk_at "my_ret"); (case kh1 => omega); (case kh2 => omega); (case kh5 => omega); (case kh6 => omega); walk_at "my_afterE"))
section
variable {w : World} {p : Program} {loose : List Str} {mean : ExcName → Option Value} {mg mb : Str → Option Value}
end
local macro_rules | `(tactic| walk_at "call ref") => `(tactic| (k_here; (with_reducible show wpAny _ _ (call (Value.ref 422) _ _) _ _ _); k_dflt (refine' use_E (c_tojd2R _ _ _ _ _ _ ?kh1 ?kh2 ?kh3 ?kh5 ?kh6) ?k1 ?k2 ?k3 ?k4 ?k5 ?kK ?kd ?ku ?_; (case kh3 => with_reducible assumption); walk_at "my_ret"); (case kh1 => omega); (case kh2 => omega); (case kh5 => omega); (case kh6 => omega); walk_at "my_afterE"))
section
variable {w : World} {p : Program} {loose : List Str} {mean : ExcName → Option Value} {mg mb : Str → Option Value}
end
local macro_rules | `(tactic| walk_at "eval Call Attribute cons nil") => `(tactic| (k_here; (with_reducible show wpAny _ _ (eval (Expr.Call (Expr.Attribute _ _ _) [Expr.Starred _ _] [] _) _) _ _ _); k_dflt (refine methodCall_S ?_)))
section
variable {w : World} {p : Program} {loose : List Str} {mean : ExcName → Option Value} {mg mb : Str → Option Value}
end
local macro_rules | `(tactic| walk_at "callWith ref") => `(tactic| (k_here; (with_reducible show wpAny _ _ (callWith _ (Value.ref _) _ (backTo _ (starEach [Expr.Starred _ _] _)) []) _ _ _); k_dflt (refine' callWith_MS ?k1 ?k2 ?k3 ?k4 ?_; (case k1 => k_asm); (case k2 => k_asm); (case k3 => k_mem); (case k4 => k_is); k_whole)))
section
variable {w : World} {p : Program} {loose : List Str} {mean : ExcName → Option Value} {mg mb : Str → Option Value}
set_option maxHeartbeats 1000000 in
theorem c_refused (way y m d : Int) (C D dv : Addr) (b : UInt64) (tw ty tm td tk te : Tok) (h1 : 1 ≤ m) (h2 : m ≤ 12) (h3 : d = 0 ∨ d = mlen (leapB y) m + 1) (h5 : 0 ≤ d) (h6 : d ≤ 32) :
    SpecL w p loose mean mg mb 9 570 [.int way tw, .ref C, .ref dv] [(dv, tup3 y m d ty tm td), (C, instObj 538 D), (D, epoObj w b tk te)] (fun r => ∃ t, r = .bool t ∧ t = true) := by
  unfold SpecL
  k_fill
  intro dp un gd cn cs a ccd A₀ h₀ L m news s Q E B F X N T hk hd hu hret
  dsimp only [List.cons_append, List.nil_append] at N hret
  refine wpAny_call ?_
  (refine' code_defS0 ?k1 ?k2 ?k3 ?k4 ?k5 ?kA ?k6 ?k7 ?k8 ?k9 ?kB ?_ ?cK ?c2 ?c3 ?c4 ?c5; (case kA => exact rfl); (case k2 => k_asm); (case k1 => k_asm); (case k3 => k_asm); (case k4 => k_asm); (case k5 => k_asm); (case k6 => k_is); (case k7 => k_is); (case k8 => k_room); (case k9 => first | exact binds_K (by k_in) rfl (by k_is) rfl rfl rfl | exact BindsTo.of_eq rfl | fail "kts_go: no rule for these arguments"); (case kB => exact locs rfl); (case cK => first | exact rfl | assumption); (case c2 => exact rfl); (case c3 => exact rfl); (case c4 => exact rfl); (case c5 => decide); k_whole; intro g' L' h' FG' F' N' B' X' T' D'; (try dsimp only); (try k_lift B'); (try k_fold))
  k_steps
  all_goals (refine retV hret ⟨_, rfl, rfl⟩ (by assumption) ?_; first | assumption | exact cb_drop (news' := _ :: _) (by assumption) (fun _ h => List.mem_cons_of_mem _ h))
end

set_option maxRecDepth 100000
theorem off_LB : True := by
  w_top off
  trivial
section
def lastDef : List Stmt → List Stmt × Option Scope
  | [] => ([], none)
  | [.FunctionDef _ _ body _ _ _ sc _ _ _] => (body, some sc)
  | _ :: r => lastDef r
def forBody : List Stmt → List Stmt
  | [] => []
  | .For _ _ b _ _ :: _ => b
  | _ :: r => forBody r
def lawBody : List Stmt := forBody (lastDef PySem.Challenge.rw_ad5027_01.row.prog.main.body).1
def lawScope : Option Scope := (lastDef PySem.Challenge.rw_ad5027_01.row.prog.main.body).2

end
set_option maxRecDepth 100000
theorem off_T1 : True := by
  w_top off
  trivial
section
def lensL (lp : Bool) : List Int := [31, if lp then 29 else 28, 31, 30, 31, 30, 31, 31, 30, 31, 30, 31]
theorem lens_at {lp : Bool} {m : Int} (h1 : 1 ≤ m) (h2 : m ≤ 12) : (lensL lp).getD (m - 1).toNat 0 = mlen lp m := by
  have hm := m_twelve h1 h2
  cases lp <;> rcases hm with e|e|e|e|e|e|e|e|e|e|e|e <;> subst e <;> decide
theorem mlen_bb (lp : Bool) (m : Int) : 28 ≤ mlen lp m ∧ mlen lp m ≤ 31 := by
  cases lp <;> (unfold mlen; (repeat' split) <;> simp_all)
section
variable {prog : Program} {w : World} {A : Around} {E : Value → Shared → Prop} {s : Shared} {Q : Value → Shared → Prop} {h₀ : Heap} {L l : Addr} {news : List (Addr × Obj)} {vs : List Value} {u : Tok} {c : Nat}
theorem r_lens {value slice : PySem.Expr} {lp : Bool} {m : Int} (hl : s.heap.IsList l vs.toArray) (hi : IntsAre vs (lensL lp)) (h1 : 1 ≤ m) (h2 : m ≤ 12) (h : ∀ t, Q (.int (mlen lp m) t) s)
    (hs : subscripted slice false (.ref l) (.int (m - 1) u) = operate [.ref l, .int (m - 1) u] (getItem (.ref l) (.int (m - 1) u)) := by with_unfolding_all rfl) (hg : ∀ r, letTemporaryGo value (.ref l) r = pure () := by intro _; with_unfolding_all rfl) :
    wpAny (model prog w) A (subscriptTail value slice (.ref l) (.int (m - 1) u)) Q E s :=
  item_list_ints hl hi (by omega) (by simp [lensL]; omega) (by omega) (fun t => by rw [lens_at h1 h2]; exact h t) hs hg
theorem r_ways {value slice : PySem.Expr} {ns : List Int} {k : Int} (hl : s.heap.IsList l vs.toArray) (hi : IntsAre vs ns) (hn : ns.length = 3) (h1 : 0 ≤ k) (h2 : k < 3) (h : ∀ v t, Q (.int v t) s)
    (hs : subscripted slice false (.ref l) (.int k u) = operate [.ref l, .int k u] (getItem (.ref l) (.int k u)) := by with_unfolding_all rfl) (hg : ∀ r, letTemporaryGo value (.ref l) r = pure () := by intro _; with_unfolding_all rfl) :
    wpAny (model prog w) A (subscriptTail value slice (.ref l) (.int k u)) Q E s :=
  item_list_ints hl hi h1 (by omega) (by omega) (fun t => h _ t) hs hg
end
structure JA (y m d p dn : Int) : Prop where
  out : J y m d p dn
section
variable {w : World} {p : Program} {loose : List Str} {mean : ExcName → Option Value} {mg mb : Str → Option Value} {prog : Program} {A : Around} {E : Value → Shared → Prop} {s : Shared} {Q : Value → Shared → Prop}
theorem c_fromjd2 {y m d q dn v : Int} {x : UInt64} {t : Tok} (mk : J y m d q dn) (hx : FQ x v) (hv : v = 4 * (1721425 + dn) + 2) : SpecT w p loose mean mg mb 7 436 [.float x t] (IsTriple y m d) := c_fromjd mk (hv ▸ hx)
theorem c_fromjdJ2 {v : Int} {x : UInt64} {t : Tok} (hx : FQ x v) (h : v % 4 = 2) (h1 : -415000000 ≤ v / 4) (h2 : v / 4 ≤ 415000000) : SpecT w p loose mean mg mb 3 472 [.float x t] (fun o => ∃ y m d, IsTriple y m d o ∧ GoodJ (v / 4) y m d) :=
  c_fromjdJ (v / 4) x t h1 h2 (by have e : 4 * (v / 4) + 2 = v := by omega
                                  rw [e]; exact hx)
theorem c_tojd2n {nr : Bool} {y m d : Int} {ty tm td : Tok} (hn : nr = true → 1801 ≤ y ∧ y ≤ 2099) (hr : nr = true) (h1 : 1 ≤ m) (h2 : m ≤ 12) (h3 : 1 ≤ d) (h4 : d ≤ mlen (leapB y) m) (h5 : d ≤ 31) :
    SpecV w p loose mean mg mb 5 422 [.int y ty, .int m tm, .int d td] (fun r => ∃ b t, r = .float b t ∧ FQ b (4 * (1721424 + dby y + cumF (leapB y) m + d) + 2)) := c_tojd2 y m d ty tm td (hn hr).1 (hn hr).2 h1 h2 h3 h4 h5
theorem r_ne_eq {x y : UInt64} {a b : Int} {t u : Tok} (hx : FQ x a) (hy : FQ y b) (e : a = b) (h : Q (.bool false) s) : wpAny (model prog w) A (compareOp .NotEq (.float x t) (.float y u)) Q E s :=
  r_ne_ff hx hy (by rw [decide_eq_true e]; exact h)
end
def lawF (m : Str → Option Value) (Y Bg El Lt dr W : Int) (nr : Bool) (ep : UInt64) (al aw C : Addr) (t1 t2 t3 t4 t5 t6 t7 : Tok) : Str → Option Value := fun y =>
  if y = Str.ofString "walked" then some (.int W t1)
  else if y = Str.ofString "year" then some (.int Y t2)
  else if y = Str.ofString "epoch" then some (.float ep t3)
  else if y = Str.ofString "near" then some (.bool nr)
  else if y = Str.ofString "draw" then some (.int dr t4)
  else if y = Str.ofString "ways" then some (.ref aw)
  else if y = Str.ofString "begin" then some (.int Bg t5)
  else if y = Str.ofString "lengths" then some (.ref al)
  else if y = Str.ofString "elder" then some (.int El t6)
  else if y = Str.ofString "late" then some (.int Lt t7)
  else if y = Str.ofString "count" then some (.ref C)
  else m y
theorem lawF_of {m : Str → Option Value} {Y Bg El Lt dr W : Int} {nr : Bool} {ep : UInt64} {al aw C : Addr} {t1 t2 t3 t4 t5 t6 t7 : Tok}
    (h1 : m (Str.ofString "walked") = some (.int W t1)) (h2 : m (Str.ofString "year") = some (.int Y t2)) (h3 : m (Str.ofString "epoch") = some (.float ep t3)) (h4 : m (Str.ofString "near") = some (.bool nr)) (h5 : m (Str.ofString "draw") = some (.int dr t4)) (h6 : m (Str.ofString "ways") = some (.ref aw))
    (h7 : m (Str.ofString "begin") = some (.int Bg t5)) (h8 : m (Str.ofString "lengths") = some (.ref al)) (h9 : m (Str.ofString "elder") = some (.int El t6)) (h10 : m (Str.ofString "late") = some (.int Lt t7)) (h11 : m (Str.ofString "count") = some (.ref C)) :
    m = lawF m Y Bg El Lt dr W nr ep al aw C t1 t2 t3 t4 t5 t6 t7 := by
  funext y
  unfold lawF
  by_cases c1 : y = Str.ofString "walked"
  · subst c1; rw [if_pos rfl]; exact h1
  by_cases c2 : y = Str.ofString "year"
  · subst c2; rw [if_neg c1, if_pos rfl]; exact h2
  by_cases c3 : y = Str.ofString "epoch"
  · subst c3; rw [if_neg c1, if_neg c2, if_pos rfl]; exact h3
  by_cases c4 : y = Str.ofString "near"
  · subst c4; rw [if_neg c1, if_neg c2, if_neg c3, if_pos rfl]; exact h4
  by_cases c5 : y = Str.ofString "draw"
  · subst c5; rw [if_neg c1, if_neg c2, if_neg c3, if_neg c4, if_pos rfl]; exact h5
  by_cases c6 : y = Str.ofString "ways"
  · subst c6; rw [if_neg c1, if_neg c2, if_neg c3, if_neg c4, if_neg c5, if_pos rfl]; exact h6
  by_cases c7 : y = Str.ofString "begin"
  · subst c7; rw [if_neg c1, if_neg c2, if_neg c3, if_neg c4, if_neg c5, if_neg c6, if_pos rfl]; exact h7
  by_cases c8 : y = Str.ofString "lengths"
  · subst c8; rw [if_neg c1, if_neg c2, if_neg c3, if_neg c4, if_neg c5, if_neg c6, if_neg c7, if_pos rfl]; exact h8
  by_cases c9 : y = Str.ofString "elder"
  · subst c9; rw [if_neg c1, if_neg c2, if_neg c3, if_neg c4, if_neg c5, if_neg c6, if_neg c7, if_neg c8, if_pos rfl]; exact h9
  by_cases c10 : y = Str.ofString "late"
  · subst c10; rw [if_neg c1, if_neg c2, if_neg c3, if_neg c4, if_neg c5, if_neg c6, if_neg c7, if_neg c8, if_neg c9, if_pos rfl]; exact h10
  by_cases c11 : y = Str.ofString "count"
  · subst c11; rw [if_neg c1, if_neg c2, if_neg c3, if_neg c4, if_neg c5, if_neg c6, if_neg c7, if_neg c8, if_neg c9, if_neg c10, if_pos rfl]; exact h11
  rw [if_neg c1, if_neg c2, if_neg c3, if_neg c4, if_neg c5, if_neg c6, if_neg c7, if_neg c8, if_neg c9, if_neg c10, if_neg c11]
theorem fr_lawF {m : Str → Option Value} {Y Bg El Lt dr W : Int} {nr : Bool} {ep : UInt64} {al aw C : Addr} {t1 t2 t3 t4 t5 t6 t7 : Tok} {h₀ h' : Heap} {L : Addr} (F : Fr h₀ L h' m)
    (h1 : m (Str.ofString "walked") = some (.int W t1)) (h2 : m (Str.ofString "year") = some (.int Y t2)) (h3 : m (Str.ofString "epoch") = some (.float ep t3)) (h4 : m (Str.ofString "near") = some (.bool nr)) (h5 : m (Str.ofString "draw") = some (.int dr t4)) (h6 : m (Str.ofString "ways") = some (.ref aw))
    (h7 : m (Str.ofString "begin") = some (.int Bg t5)) (h8 : m (Str.ofString "lengths") = some (.ref al)) (h9 : m (Str.ofString "elder") = some (.int El t6)) (h10 : m (Str.ofString "late") = some (.int Lt t7)) (h11 : m (Str.ofString "count") = some (.ref C)) :
    Fr h₀ L h' (lawF m Y Bg El Lt dr W nr ep al aw C t1 t2 t3 t4 t5 t6 t7) := lawF_of h1 h2 h3 h4 h5 h6 h7 h8 h9 h10 h11 ▸ F
section
variable {w : World} {p : Program} {loose : List Str} {mean : ExcName → Option Value} {mg mb : Str → Option Value}
local macro_rules | `(tactic| walk_at "subscriptTail Name BinOp ref int") => `(tactic| (k_here; k_dflt (refine' r_lens ?k1 ?k2 ?k3 ?k4 ?_; (case k1 => is_list); (case k2 => with_reducible assumption); (case k3 => omega); (case k4 => omega)); intro t9))
local macro_rules | `(tactic| walk_at "subscriptTail Name BinOp ref int") => `(tactic| (k_here; k_dflt (refine' r_ways ?k1 ?k2 ?k5 ?k3 ?k4 ?_; (case k1 => is_list); (case k2 => with_reducible assumption); (case k5 => with_reducible assumption); (case k3 => omega); (case k4 => omega)); intro v9 t9))
local macro_rules | `(tactic| walk_at "call ref") => `(tactic| (k_here; (with_reducible show wpAny _ _ (call (Value.ref 407) _ _) _ _ _); k_dflt (refine' use_T (c_nth _ _ _ _ _ _ _ ?kh1 ?kh2 ?kh3 ?kh4 ?kh5 ?kh6) ?k1 ?k2 ?k3 ?k4 ?k5 ?kK ?kd ?ku ?_; walk_at "my_ret"); (case kh1 => omega); (case kh2 => omega); (case kh3 => omega); (case kh4 => omega); (case kh5 => exact wkd_law); (case kh6 => exact (mlen_bb _ _).1); k_dflt (walk_at "my_afterT")))
local macro_rules | `(tactic| walk_at "call ref") => `(tactic| (k_here; (with_reducible show wpAny _ _ (call (Value.ref 443) _ _) _ _ _); k_dflt (refine' use_V (c_mlen _ _ _ _ ?kh1 ?kh2 ?kh3 ?kh4) ?k1 ?k2 ?k3 ?k4 ?k5 ?kK ?kd ?ku ?_; walk_at "my_ret"); (case kh1 => omega); (case kh2 => omega); (case kh3 => omega); (case kh4 => omega); walk_at "my_after"))
local macro_rules | `(tactic| walk_at "call ref") => `(tactic| (k_here; (with_reducible show wpAny _ _ (call (Value.ref 479) _ _) _ _ _); k_dflt (refine' use_V (c_tojdJ _ _ _ _ _ _ ?kh1 ?kh2 ?kh3 ?kh4 ?kh5 ?kh6 ?kh7) ?k1 ?k2 ?k3 ?k4 ?k5 ?kK ?kd ?ku ?_; walk_at "my_ret"); (case kh1 => omega); (case kh2 => omega); (case kh3 => omega); (case kh4 => omega); (case kh5 => omega); (case kh6 => first | assumption | exact Int.le_trans (by decide) (mlen_bb _ _).1); (case kh7 => omega); walk_at "my_after"))
local macro_rules | `(tactic| walk_at "call ref") => `(tactic| (k_here; (with_reducible show wpAny _ _ (call (Value.ref 549) _ _) _ _ _); k_dflt (refine' use_V (c_ojd _ _ _ _ ?kh1 ?kh2 ?kh3 ?kh4) ?k1 ?k2 ?k3 ?k4 ?k5 ?kK ?kd ?ku ?_; walk_at "my_ret"); (case kh1 => omega); (case kh2 => omega); (case kh3 => omega); (case kh4 => omega); walk_at "my_after"))
local macro_rules | `(tactic| walk_at "call ref") => `(tactic| (k_here; (with_reducible show wpAny _ _ (call (Value.ref 556) _ _) _ _ _); k_dflt (refine' use_T (c_ofg _ _ _ _ _ _ ?kh1 ?kh2 ?kh3 ?kh4 ?kh5 ?kh6 ?kh7) ?k1 ?k2 ?k3 ?k4 ?k5 ?kK ?kd ?ku ?_; walk_at "my_ret"); (case kh1 => omega); (case kh2 => omega); (case kh3 => omega); (case kh4 => omega); (case kh5 => omega); (case kh6 => omega); (case kh7 => omega); k_dflt (walk_at "my_afterT")))
local macro_rules | `(tactic| walk_at "call ref") => `(tactic| (k_here; (with_reducible show wpAny _ _ (call (Value.ref 429) _ _) _ _ _); k_dflt (refine' use_V (c_tojd _ _ _ _ _ _ ?kh1 ?kh2 ?kh3 ?kh4 ?kh5 ?kh6 ?kh7) ?k1 ?k2 ?k3 ?k4 ?k5 ?kK ?kd ?ku ?_; walk_at "my_ret"); (case kh1 => omega); (case kh2 => omega); (case kh3 => omega); (case kh4 => omega); (case kh5 => omega); (case kh6 => omega); (case kh7 => omega); walk_at "my_after"))
local macro_rules | `(tactic| walk_at "call ref") => `(tactic| (k_here; (with_reducible show wpAny _ _ (call (Value.ref 422) _ _) _ _ _); k_dflt (refine' use_V (c_tojd2n ?kh1 ?kh2 ?kh3 ?kh4 ?kh5 ?kh6 ?kh7) ?k1 ?k2 ?k3 ?k4 ?k5 ?kK ?kd ?ku ?_; (case kh1 => with_reducible assumption); (case kh2 => with_reducible assumption); walk_at "my_ret"); (case kh3 => omega); (case kh4 => omega); (case kh5 => omega); (case kh6 => omega); (case kh7 => omega); walk_at "my_after"))
local macro_rules | `(tactic| walk_at "my_J") => `(tactic| first | with_reducible assumption | (with_reducible refine JA.out ?_; with_reducible assumption))
local macro_rules | `(tactic| walk_at "call ref") => `(tactic| (k_here; (with_reducible show wpAny _ _ (call (Value.ref 436) _ _) _ _ _); k_dflt (first
  | (refine' use_T (c_fromjd2 ?kj ?kx ?kv) ?k1 ?k2 ?k3 ?k4 ?k5 ?kK ?kd ?ku ?_; (case kj => with_reducible assumption); (case kx => with_reducible assumption); (case kv => omega); walk_at "my_ret")
  | (refine' use_T (c_fromjd2 (JA.out ?kj) ?kx ?kv) ?k1 ?k2 ?k3 ?k4 ?k5 ?kK ?kd ?ku ?_; (case kj => with_reducible assumption); (case kx => with_reducible assumption); (case kv => omega); walk_at "my_ret")); k_dflt (walk_at "my_afterT")))
local macro_rules | `(tactic| walk_at "my_afterG") => `(tactic| (intro x9 o9 h9 tk9 P9 F9 N9 l9; (obtain ⟨y9, m9, d9, ⟨t9, u9, v9, P9⟩, ⟨g1, g2, g3, g4, g5, g6, g7, g8⟩⟩ := P9; subst P9); (try k_lt l9); (try dsimp only); (try k_fold)))
local macro_rules | `(tactic| walk_at "call ref") => `(tactic| (k_here; (with_reducible show wpAny _ _ (call (Value.ref 472) _ _) _ _ _); k_dflt (refine' use_T (c_fromjdJ2 ?kx ?kv ?kw ?kz) ?k1 ?k2 ?k3 ?k4 ?k5 ?kK ?kd ?ku ?_; (case kx => with_reducible assumption); (case kv => omega); (case kw => omega); (case kz => omega); walk_at "my_ret"); k_dflt (walk_at "my_afterG")))
local macro_rules | `(tactic| walk_at "my_after2") => `(tactic| (intro r9 h9 tk9 P9 F9 N9; (obtain ⟨b9, P9, q9⟩ := P9; subst P9; subst q9); (try dsimp only); (try k_fold)))
local macro_rules | `(tactic| walk_at "call ref") => `(tactic| (k_here; (with_reducible show wpAny _ _ (call (Value.ref 570) _ _) _ _ _); k_dflt (refine' use_L (c_refused _ _ _ _ _ _ _ _ _ _ _ _ _ _ ?kh1 ?kh2 ?kh3 ?kh5 ?kh6) ?k1 ?k2 ?k3 ?k4 ?k5 ?kK ?kd ?ku ?ks ?_; (case k4 => k_asm); (case ks => k_subL); (case k1 => k_asm); (case k2 => k_asm); (case k3 => k_asm); (case k5 => k_asm); (case kK => first | exact rfl | assumption); (case kd => ktr_room); (case ku => ktr_units)); (case kh3 => first | exact Or.inr rfl | exact Or.inl rfl); (case kh1 => omega); (case kh2 => omega); (case kh5 => omega); (case kh6 => omega); walk_at "my_after2"))
local macro_rules | `(tactic| walk_at "compareOp NotEq float float") => `(tactic| (k_here; k_dflt ((with_reducible refine' r_ne_eq ?kx ?ka ?ke ?_); (case kx => walk_at "my_fq"); (case ka => walk_at "my_fq"); (case ke => omega))))
local macro_rules | `(tactic| walk_at "binaryOp Mod int int") => `(tactic| (k_here; (with_reducible refine' r_mod ?ka ?_); (case ka => first | decide | omega)))
local macro_rules | `(tactic| walk_at "exec For Name List cons nil") => `(tactic| (k_here; (rename Fr _ _ _ _ => lF'); (with_unfolding_all refine' For_invVF lF' ?k1 ?k2 ?_ ?k3 ?k4; (case k1 => exact rfl); (case k2 => exact rfl); (case k3 => intro _; rfl); (case k4 => assumption); k_whole)))
local macro_rules | `(tactic| walk_at "my_joined") => `(tactic| (refine Joined.intro (by assumption) (by assumption) (SubL.mem (by k_subL))))
local macro_rules | `(tactic| walk_at "exec If") => `(tactic| (k_here; k_dflt (refine' join_exec ?F ?N ?walk ?_; (case F => k_asm); (case N => k_asm); (case walk => (refine wpAny_If ?_; k_steps; all_goals (first | walk_at "my_joined" | (exfalso; omega))))); intro h9 tk9 F9 N9; (try dsimp only); (try k_fold)))
set_option maxHeartbeats 4000000 in
theorem turn : ∃ (a1 a2 a3 a4 a5 a6 a7 a8 a9 : Stmt) (k : ScopeKind) (n : List (Str × NameKind)) (ia ib : Bool) (mo' : _), [a1, a2, a3, a4, a5, a6, a7, a8, a9] = lawBody ∧ some (⟨k, n, ia, ib, mo'⟩ : Scope) = lawScope ∧
    ∀ (Y El Lt dr e mo : Int) (nr : Bool) (ep : UInt64) (al aw C D I a L : Addr) (ccd : Value) (ls ws : List Value) (wn : List Int) (t0 t1 t2 t3 t4 t5 t6 t7 tk te : Tok) (m : Str → Option Value) (A₀ : Around) (h₀ : Heap) (dp un : Nat) (gd : Option (List Code)) (cn : Str) (s : Shared) (it : Obj) (Q : Flow → Shared → Prop) (E : Value → Shared → Prop),
      -1100000 ≤ Y → Y ≤ 1100000 → (nr = true → 1801 ≤ Y ∧ Y ≤ 2099) → 1 ≤ mo → mo ≤ 12 → -1000001 ≤ e → e ≤ 1000001 → FQ ep (2 + 4 * e) →
      (mo > 2 → jJ Y mo 1 = 4 * (El + cumF (leapB Y) mo + Lt) - 2) → (¬ mo > 2 → jJ Y mo 1 = 4 * (El + cumF (leapB Y) mo + 0) - 2) → -420000000 ≤ El → El ≤ 420000000 → 0 ≤ Lt → Lt ≤ 1 →
      IntsAre ls (lensL (leapB Y)) → IntsAre ws wn → wn.length = 3 →
      Below A₀ h₀ [] h₀ → (hd.heap_39 w.params).In h₀ → Top p loose mean mg mb h₀ → dp + 20 < recursionLimit → un + 8 * 20 < cLine → PassesOwn (model PySem.Challenge.rw_ad5027_01.row.prog w) (ktrTop dp un gd cn ⟨k, n, ia, ib, mo'⟩ L a ccd [] []) (envX cn ⟨k, n, ia, ib, mo'⟩ L a ccd []) E →
      Fr h₀ L s.heap (fun y => if y = Str.ofString "month" then some (.int mo t0) else lawF m Y (1721426 + dby Y) El Lt dr (cumF (leapB Y) mo) nr ep al aw C t1 t2 t3 t4 t5 t6 t7 y) →
      News h₀ L s.heap [(I, it), (al, W.listOf ls.toArray 0), (aw, W.listOf ws.toArray 0), (C, instObj 538 D), (D, epoObj w ep tk te)] → 
      (∀ h' tk' m' t1 t2 t3 t4 t5 t6 t7, Fr h₀ L h' (lawF m' Y (1721426 + dby Y) El Lt dr (cumF (leapB Y) mo + mlen (leapB Y) mo) nr ep al aw C t1 t2 t3 t4 t5 t6 t7) → News h₀ L h' [(I, it), (al, W.listOf ls.toArray 0), (aw, W.listOf ws.toArray 0), (C, instObj 538 D), (D, epoObj w ep tk te)] → Q .next { s with heap := h', toks := tk' }) →
      wpAny (model PySem.Challenge.rw_ad5027_01.row.prog w) (ktrTop dp un gd cn ⟨k, n, ia, ib, mo'⟩ L a ccd [] []) (execs [a1, a2, a3, a4, a5, a6, a7, a8, a9] (envX cn ⟨k, n, ia, ib, mo'⟩ L a ccd [])) Q E s := by
  refine ⟨_, _, _, _, _, _, _, _, _, _, _, _, _, _, by with_unfolding_all rfl, by with_unfolding_all rfl, ?_⟩
  k_fill
  intro Y El Lt dr e mo nr ep al aw C D I a L ccd ls ws wn t0 t1 t2 t3 t4 t5 t6 t7 tk te m A₀ h₀ dp un gd cn s it Q E hy1 hy2 hnr hm1 hm2 he1 he2 hep hJ1 hJ2 hE1 hE2 hL1 hL2 hls hws hwn B X T hd hu hE F N go
  have hml := mlen_bb (leapB Y) mo
  have hdb := dby_b hy1 hy2
  have hcf := cumF_b (lp := leapB Y) hm1 hm2
  have hpA := place_b (lp := leapB Y) (d := 1 + (dr + mo) % mlen (leapB Y) mo) hm1 hm2 (by have := Int.emod_nonneg (dr + mo) (show mlen (leapB Y) mo ≠ 0 by omega); omega) (by have := Int.emod_lt_of_pos (dr + mo) (show 0 < mlen (leapB Y) mo by omega); omega)
  have hpB := place_b (lp := leapB Y) (d := mlen (leapB Y) mo) hm1 hm2 (by omega) (Int.le_refl _)
  have hdA1 := Int.emod_nonneg (dr + mo) (show mlen (leapB Y) mo ≠ 0 by omega)
  have hdA2 := Int.emod_lt_of_pos (dr + mo) (show 0 < mlen (leapB Y) mo by omega)
  have hx : (if leapB Y = true then (1 : Int) else 0) ≤ 1 := by split <;> decide
  have hpA' : cumF (leapB Y) mo + (1 + (dr + mo) % mlen (leapB Y) mo) ≤ 366 := by omega
  have hpB' : cumF (leapB Y) mo + mlen (leapB Y) mo ≤ 366 := by omega
  clear hpA hpB hx
  have jB : J Y mo (mlen (leapB Y) mo) (cumF (leapB Y) mo + mlen (leapB Y) mo - 1) (dby Y + (cumF (leapB Y) mo + mlen (leapB Y) mo - 1)) := ⟨hy1, hy2, hm1, hm2, by omega, by omega, by omega, rfl, rfl⟩
  have jA : JA Y mo (1 + (dr + mo) % mlen (leapB Y) mo) (cumF (leapB Y) mo + (1 + (dr + mo) % mlen (leapB Y) mo) - 1) (dby Y + (cumF (leapB Y) mo + (1 + (dr + mo) % mlen (leapB Y) mo) - 1)) := ⟨⟨hy1, hy2, hm1, hm2, by omega, by omega, by omega, rfl, rfl⟩⟩
  dsimp only [lawF] at F
  k_steps
  exact go _ _ _ _ _ _ _ _ _ _ (fr_lawF (by assumption) (by rfl) (by rfl) (by rfl) (by rfl) (by rfl) (by rfl) (by rfl) (by rfl) (by rfl) (by rfl) (by rfl)) (cb_drop (by assumption) (SubL.mem (by k_subL)))
end

end
set_option maxRecDepth 100000
theorem off_L1 : True := by
  w_top off
  trivial
section
theorem cumF_step {lp : Bool} {m : Int} (h1 : 1 ≤ m) (h2 : m ≤ 12) : cumF lp m + mlen lp m = cumF lp (m + 1) := by
  have hm := m_twelve h1 h2
  cases lp <;> rcases hm with e|e|e|e|e|e|e|e|e|e|e|e <;> subst e <;> decide
section
variable {w : World} {p : Program} {loose : List Str} {mean : ExcName → Option Value} {mg mb : Str → Option Value}
abbrev LED (w : World) (al aw C D : Addr) (ls ws : List Value) (ep : UInt64) (tk te : Tok) : List (Addr × Obj) := [(al, W.listOf ls.toArray 0), (aw, W.listOf ws.toArray 0), (C, instObj 538 D), (D, epoObj w ep tk te)]
theorem loop : ∃ (a1 a2 a3 a4 a5 a6 a7 a8 a9 : Stmt) (k : ScopeKind) (n : List (Str × NameKind)) (ia ib : Bool) (mo' : _), [a1, a2, a3, a4, a5, a6, a7, a8, a9] = lawBody ∧ some (⟨k, n, ia, ib, mo'⟩ : Scope) = lawScope ∧
    ∀ (Y El Lt dr e : Int) (nr : Bool) (ep : UInt64) (al aw C D I a L : Addr) (ccd : Value) (ls ws : List Value) (wn : List Int) (tk te : Tok) (A₀ : Around) (h₀ : Heap) (dp un : Nat) (gd : Option (List Code)) (cn : Str) (s : Shared) (Q : Flow → Shared → Prop) (E : Value → Shared → Prop),
      -1100000 ≤ Y → Y ≤ 1100000 → (nr = true → 1801 ≤ Y ∧ Y ≤ 2099) → -1000001 ≤ e → e ≤ 1000001 → FQ ep (2 + 4 * e) →
      El = 1721424 + 365 * (Y - 1) + (Y - 1) / 4 → Lt = (if Y % 4 = 0 ∧ leapB Y = false then 1 else 0) →
      IntsAre ls (lensL (leapB Y)) → IntsAre ws wn → wn.length = 3 →
      Below A₀ h₀ [] h₀ → (hd.heap_39 w.params).In h₀ → Top p loose mean mg mb h₀ → dp + 20 < recursionLimit → un + 8 * 20 < cLine → PassesOwn (model PySem.Challenge.rw_ad5027_01.row.prog w) (ktrTop dp un gd cn ⟨k, n, ia, ib, mo'⟩ L a ccd [] []) (envX cn ⟨k, n, ia, ib, mo'⟩ L a ccd []) E →
      (∀ q ∈ LED w al aw C D ls ws ep tk te, q.1 < I) →
      (∀ h' tk' m' t1 t2 t3 t4 t5 t6 t7, Fr h₀ L h' (lawF m' Y (1721426 + dby Y) El Lt dr (cumF (leapB Y) 13) nr ep al aw C t1 t2 t3 t4 t5 t6 t7) → News h₀ L h' (LED w al aw C D ls ws ep tk te) → Q .next { s with heap := h', toks := tk' }) →
      ∀ (kk i : Nat), kk + i = 12 → ∀ (m : Str → Option Value) (t1 t2 t3 t4 t5 t6 t7 : Tok),
      RangeRest PySem.Challenge.rw_ad5027_01.row.prog w (ktrTop dp un gd cn ⟨k, n, ia, ib, mo'⟩ L a ccd [] []) E h₀ (envX cn ⟨k, n, ia, ib, mo'⟩ L a ccd []) (Str.ofString "month") [a1, a2, a3, a4, a5, a6, a7, a8, a9] Q s I 1 12 kk i
        (lawF m Y (1721426 + dby Y) El Lt dr (cumF (leapB Y) (1 + (i : Int))) nr ep al aw C t1 t2 t3 t4 t5 t6 t7) (LED w al aw C D ls ws ep tk te) := by
  obtain ⟨a1, a2, a3, a4, a5, a6, a7, a8, a9, k, n, ia, ib, mo', e1, e2, tn⟩ := turn (w := w) (p := p) (loose := loose) (mean := mean) (mg := mg) (mb := mb)
  refine ⟨a1, a2, a3, a4, a5, a6, a7, a8, a9, k, n, ia, ib, mo', e1, e2, ?_⟩
  intro Y El Lt dr e nr ep al aw C D I a L ccd ls ws wn tk te A₀ h₀ dp un gd cn s Q E hy1 hy2 hnr he1 he2 hep hEl hLt hls hws hwn B X T hd hu hE hI fin kk
  have hEb : -420000000 ≤ El ∧ El ≤ 420000000 := by omega
  have hLb : 0 ≤ Lt ∧ Lt ≤ 1 := by subst hLt; split <;> decide
  induction kk with
  | zero =>
    intro i hi m t1 t2 t3 t4 t5 t6 t7
    have e12 : i = 12 := by omega
    subst e12
    exact RangeRest.zero fun h tk' F N => fin h tk' m t1 t2 t3 t4 t5 t6 t7 F N
  | succ kk ih =>
    intro i hi m t1 t2 t3 t4 t5 t6 t7
    refine RangeRest.succ fun t0 h tk' F N => ?_
    have hm1 : (1 : Int) ≤ 1 + (i : Int) := by omega
    have hm2 : 1 + (i : Int) ≤ 12 := by omega
    have hj := jJ_first (y := Y) (m := 1 + (i : Int)) (lp := leapB Y) hm1 hm2 (fun h => (leapB_t h).1)
    rw [← hEl, ← hLt] at hj
    refine tn Y El Lt dr e (1 + (i : Int)) nr ep al aw C D I a L ccd ls ws wn t0 t1 t2 t3 t4 t5 t6 t7 tk te m A₀ h₀ dp un gd cn { s with heap := h, toks := tk' } _ _ E hy1 hy2 hnr hm1 hm2 he1 he2 hep (fun g => by rw [if_pos g] at hj; exact hj) (fun g => by rw [if_neg g] at hj; exact hj) hEb.1 hEb.2 hLb.1 hLb.2 hls hws hwn B X T hd hu hE F N ?_
    intro h' tk'' m' u1 u2 u3 u4 u5 u6 u7 F' N'
    refine ⟨h', tk'', _, LED w al aw C D ls ws ep tk te, rfl, F', N', fun q hq => Nat.ne_of_lt (hI q hq), ?_⟩
    rw [cumF_step hm1 hm2]
    have e3 : (1 : Int) + (i : Int) + 1 = 1 + ((i + 1 : Nat) : Int) := by omega
    rw [e3]
    exact ih (i + 1) (by omega) m' u1 u2 u3 u4 u5 u6 u7
end

end
set_option maxRecDepth 100000
theorem off_L2 : True := by
  w_top off
  trivial
section
theorem begin_law (Y : Int) : 1721426 + 146097 * ((Y - 1) / 400) + 36524 * ((Y - 1) % 400 / 100) + 1461 * ((Y - 1) % 400 % 100 / 4) + 365 * ((Y - 1) % 400 % 4) = 1721426 + dby Y := by
  unfold dby; omega
theorem lp_iff (Y : Int) : leapB Y = true ↔ ((Y - 1) % 400 = 399 ∨ ((Y - 1) % 400 % 4 = 3 ∧ (Y - 1) % 400 % 100 ≠ 99)) := by
  simp only [leapB, Bool.and_eq_true, Bool.or_eq_true, Bool.not_eq_true', decide_eq_true_eq, decide_eq_false_iff_not]
  omega
section
variable {w : World} {p : Program} {loose : List Str} {mean : ExcName → Option Value} {mg mb : Str → Option Value}
theorem loop2 {b : List Stmt} {sc : Scope} (hb : b = lawBody) (hs : some sc = lawScope)
    {Y Bg El Lt dr e : Int} {nr : Bool} {ep : UInt64} {al aw C D I a L : Addr} {ccd : Value} {ls ws : List Value} {wn : List Int} {tk te : Tok} {A₀ : Around} {h₀ : Heap} {dp un : Nat} {gd : Option (List Code)} {cn : Str} {s : Shared} {Q : Flow → Shared → Prop} {E : Value → Shared → Prop}
    (hy1 : -1100000 ≤ Y) (hy2 : Y ≤ 1100000) (hnr : nr = true → 1801 ≤ Y ∧ Y ≤ 2099) (he1 : -1000001 ≤ e) (he2 : e ≤ 1000001) (hep : FQ ep (2 + 4 * e)) (hBg : Bg = 1721426 + dby Y)
    (hEl : El = 1721424 + 365 * (Y - 1) + (Y - 1) / 4) (hLt : Lt = (if Y % 4 = 0 ∧ leapB Y = false then 1 else 0))
    (hls : IntsAre ls (lensL (leapB Y))) (hws : IntsAre ws wn) (hwn : wn.length = 3)
    (B : Below A₀ h₀ [] h₀) (X : (hd.heap_39 w.params).In h₀) (T : Top p loose mean mg mb h₀) (hd' : dp + 20 < recursionLimit) (hu : un + 8 * 20 < cLine) (hE : PassesOwn (model PySem.Challenge.rw_ad5027_01.row.prog w) (ktrTop dp un gd cn sc L a ccd [] []) (envX cn sc L a ccd []) E)
    (hI : ∀ q ∈ LED w al aw C D ls ws ep tk te, q.1 < I)
    (fin : ∀ h' tk' m' t1 t2 t3 t4 t5 t6 t7 W, Fr h₀ L h' (lawF m' Y Bg El Lt dr W nr ep al aw C t1 t2 t3 t4 t5 t6 t7) → News h₀ L h' (LED w al aw C D ls ws ep tk te) → Q .next { s with heap := h', toks := tk' })
    {m : Str → Option Value} {W0 : Int} {t1 t2 t3 t4 t5 t6 t7 : Tok} (hW : W0 = 0) :
    RangeRest PySem.Challenge.rw_ad5027_01.row.prog w (ktrTop dp un gd cn sc L a ccd [] []) E h₀ (envX cn sc L a ccd []) (Str.ofString "month") b Q s I 1 12 12 0
      (lawF m Y Bg El Lt dr W0 nr ep al aw C t1 t2 t3 t4 t5 t6 t7) (LED w al aw C D ls ws ep tk te) := by
  obtain ⟨a1, a2, a3, a4, a5, a6, a7, a8, a9, k, n, ia, ib, mo', e1, e2, lp⟩ := loop (w := w) (p := p) (loose := loose) (mean := mean) (mg := mg) (mb := mb)
  have q1 : b = [a1, a2, a3, a4, a5, a6, a7, a8, a9] := hb.trans e1.symm
  have q2 : sc = ⟨k, n, ia, ib, mo'⟩ := Option.some.inj (hs.trans e2.symm)
  subst q1; subst q2; subst hBg; subst hW
  have q3 := lp Y El Lt dr e nr ep al aw C D I a L ccd ls ws wn tk te A₀ h₀ dp un gd cn s Q E hy1 hy2 hnr he1 he2 hep hEl hLt hls hws hwn B X T hd' hu hE hI (fun h' tk' m' t1 t2 t3 t4 t5 t6 t7 => fin h' tk' m' t1 t2 t3 t4 t5 t6 t7 _) 12 0 rfl m t1 t2 t3 t4 t5 t6 t7
  have q4 : cumF (leapB Y) (1 + ((0 : Nat) : Int)) = 0 := cumF_1 _
  rw [q4] at q3
  exact q3
end
/-- the law's year -/
structure YMark (Y : Int) : Prop where
  tt : True
section
variable {prog : Program} {w : World} {A : Around} {E : Value → Shared → Prop} {s : Shared} {h₀ : Heap} {L : Addr} {m : Str → Option Value} {news : List (Addr × Obj)} {Q : Value → Shared → Prop} {t u : Tok} {env : Env}
theorem r_divmod {Y : Int} (F : Fr h₀ L s.heap m) (N : News h₀ L s.heap news)
    (h : ∀ D h', YMark Y → Fr h₀ L h' m → News h₀ L h' ((D, { cls := .type "tuple", data := .seq #[.int ((Y - 1) / 400) s.toks, .int ((Y - 1) % 400) (s.toks + 1)] }) :: news) → (∀ q ∈ news, q.1 < D) → Q (.ref D) { s with toks := s.toks + 1 + 1, heap := h' }) :
    wpAny (model prog w) A (call (.builtin "divmod") [.int (Y - 1) t, .int 400 u]) Q E s :=
  divmod_N F N (by decide) (fun h' F' N' => by
    rw [Int.fdiv_eq_ediv_of_nonneg _ (by decide), Int.fmod_eq_emod_of_nonneg _ (by decide)] at N'
    exact h _ h' ⟨trivial⟩ F' N' fun q hq => Heap.lt_size (N q hq).1) (Or.inl (PyProof.noPylong_of_log2 (by decide +kernel)))
theorem join_long {Y : Int} {e : PySem.Expr} (_y : YMark Y) (F : Fr h₀ L s.heap m) (N : News h₀ L s.heap news)
    (walk : wpAny (model prog w) A (eval e env) (JoinedV (fun v => v = .bool (leapB Y)) h₀ L m news s) E s)
    (go : ∀ h' tk', Fr h₀ L h' m → News h₀ L h' news → Q (.bool (leapB Y)) { s with heap := h', toks := tk' }) : wpAny (model prog w) A (eval e env) Q E s :=
  join_eval _ F N walk fun v h' tk' hv F' N' => by subst hv; exact go h' tk' F' N'
theorem join_28 {Y : Int} {e : PySem.Expr} (_y : YMark Y) (F : Fr h₀ L s.heap m) (N : News h₀ L s.heap news)
    (walk : wpAny (model prog w) A (eval e env) (JoinedV (fun v => ∃ t, v = .int (if leapB Y = true then 29 else 28) t) h₀ L m news s) E s)
    (go : ∀ t h' tk', Fr h₀ L h' m → News h₀ L h' news → Q (.int (if leapB Y = true then 29 else 28) t) { s with heap := h', toks := tk' }) : wpAny (model prog w) A (eval e env) Q E s :=
  join_eval _ F N walk fun v h' tk' hv F' N' => by obtain ⟨t, rfl⟩ := hv; exact go t h' tk' F' N'
theorem join_late {Y : Int} {e : PySem.Expr} (_y : YMark Y) (F : Fr h₀ L s.heap m) (N : News h₀ L s.heap news)
    (walk : wpAny (model prog w) A (eval e env) (JoinedV (fun v => ∃ t, v = .int (if Y % 4 = 0 ∧ leapB Y = false then 1 else 0) t) h₀ L m news s) E s)
    (go : ∀ t h' tk', Fr h₀ L h' m → News h₀ L h' news → Q (.int (if Y % 4 = 0 ∧ leapB Y = false then 1 else 0) t) { s with heap := h', toks := tk' }) : wpAny (model prog w) A (eval e env) Q E s :=
  join_eval _ F N walk fun v h' tk' hv F' N' => by obtain ⟨t, rfl⟩ := hv; exact go t h' tk' F' N'
theorem r_eq_same {x y : UInt64} {a b : Int} (hx : FQ x a) (hy : FQ y b) (e : a = b) (h : Q (.bool true) s) : wpAny (model prog w) A (compareOp .Eq (.float x t) (.float y u)) Q E s :=
  r_eq_ff hx hy (by rw [decide_eq_true e]; exact h)
end

end
set_option maxRecDepth 100000
theorem off_L3 : True := by
  w_top off
  trivial
section
section
variable {w : World} {p : Program} {loose : List Str} {mean : ExcName → Option Value} {mg mb : Str → Option Value}
theorem start {r : Addr} {tr ur vr : Tok} {news : List (Addr × Obj)} {b : List Stmt} {sc : Scope} 
    {Y Bg El Lt dr e : Int} {nr : Bool} {ep : UInt64} {al aw C D a L : Addr} {ccd : Value} {ls ws : List Value} {wn : List Int} {tk te : Tok} {A₀ : Around} {h₀ : Heap} {dp un : Nat} {gd : Option (List Code)} {cn : Str} {s : Shared} {Q : Flow → Shared → Prop} {E : Value → Shared → Prop}
    {m : Str → Option Value} {W0 : Int} {t1 t2 t3 t4 t5 t6 t7 : Tok}
    (hr : IsRange s.heap r 1 13 1 tr ur vr) (F : Fr h₀ L s.heap (lawF m Y Bg El Lt dr W0 nr ep al aw C t1 t2 t3 t4 t5 t6 t7)) (N : News h₀ L s.heap news) (sub : SubL (LED w al aw C D ls ws ep tk te) news)
    (hb : b = lawBody) (hs : some sc = lawScope)
    (hy1 : -1100000 ≤ Y) (hy2 : Y ≤ 1100000) (hnr : nr = true → 1801 ≤ Y ∧ Y ≤ 2099) (he1 : -1000001 ≤ e) (he2 : e ≤ 1000001) (hep : FQ ep (2 + 4 * e)) (hBg : Bg = 1721426 + dby Y)
    (hEl : El = 1721424 + 365 * (Y - 1) + (Y - 1) / 4) (hLt : Lt = (if Y % 4 = 0 ∧ leapB Y = false then 1 else 0))
    (hls : IntsAre ls (lensL (leapB Y))) (hws : IntsAre ws wn) (hwn : wn.length = 3) (hW : W0 = 0)
    (B : Below A₀ h₀ [] h₀) (X : (hd.heap_39 w.params).In h₀) (T : Top p loose mean mg mb h₀) (hd' : dp + 20 < recursionLimit) (hu : un + 8 * 20 < cLine) (hE : PassesOwn (model PySem.Challenge.rw_ad5027_01.row.prog w) (ktrTop dp un gd cn sc L a ccd [] []) (envX cn sc L a ccd []) E)
    (fin : ∀ h' tk' m' t1 t2 t3 t4 t5 t6 t7 W, Fr h₀ L h' (lawF m' Y Bg El Lt dr W nr ep al aw C t1 t2 t3 t4 t5 t6 t7) → News h₀ L h' (LED w al aw C D ls ws ep tk te) → Q .next { s with heap := h', toks := tk' }) :
    wpAny (model PySem.Challenge.rw_ad5027_01.row.prog w) (ktrTop dp un gd cn sc L a ccd [] []) (pyIter (.ref r)) (fun it s₂ => LoopAtV PySem.Challenge.rw_ad5027_01.row.prog w (ktrTop dp un gd cn sc L a ccd [] []) h₀ (envX cn sc L a ccd []) (Str.ofString "month") b Q E it s₂) E s :=
  iter_rangeUnr (n := 12) rfl hr (by decide) (by decide) F (cb_drop N sub.mem) fun I hI => loop2 hb hs hy1 hy2 hnr he1 he2 hep hBg hEl hLt hls hws hwn B X T hd' hu hE hI fin hW
end
section
variable {s : Shared} {h₀ : Heap} {L : Addr} {m : Str → Option Value} {news : List (Addr × Obj)}
theorem JoinedV.b {b b' : Bool} {h' : Heap} {tk' : Nat} {news' : List (Addr × Obj)} (hp : b = b') (F : Fr h₀ L h' m) (N : News h₀ L h' news') (hs : ∀ p ∈ news, p ∈ news') : JoinedV (fun v => v = .bool b') h₀ L m news s (.bool b) { s with heap := h', toks := tk' } :=
  JoinedV.intro (congrArg Value.bool hp) F N hs
theorem JoinedV.i {n n' : Int} {t : Tok} {h' : Heap} {tk' : Nat} {news' : List (Addr × Obj)} (hp : n = n') (F : Fr h₀ L h' m) (N : News h₀ L h' news') (hs : ∀ p ∈ news, p ∈ news') : JoinedV (fun v => ∃ t, v = .int n' t) h₀ L m news s (.int n t) { s with heap := h', toks := tk' } :=
  JoinedV.intro ⟨t, by rw [hp]⟩ F N hs
end
theorem lens_t {Y : Int} {ls : List Value} (h : leapB Y = true) (i : IntsAre ls [31, 29, 31, 30, 31, 30, 31, 31, 30, 31, 30, 31]) : IntsAre ls (lensL (leapB Y)) := by rw [h]; exact i
theorem lens_f {Y : Int} {ls : List Value} (h : leapB Y = false) (i : IntsAre ls [31, 28, 31, 30, 31, 30, 31, 31, 30, 31, 30, 31]) : IntsAre ls (lensL (leapB Y)) := by rw [h]; exact i
theorem lens_n {Y : Int} {ls : List Value} (h : ¬ leapB Y = true) (i : IntsAre ls [31, 28, 31, 30, 31, 30, 31, 31, 30, 31, 30, 31]) : IntsAre ls (lensL (leapB Y)) := lens_f (Bool.not_eq_true _ ▸ h) i
theorem long_1 {Y : Int} (h : (Y - 1) % 400 = 399) : ((Y - 1) % 400 == 399) = leapB Y := by
  rw [Bool.eq_iff_iff, lp_iff]; simp [h]
theorem long_2 {Y : Int} (h1 : ¬ (Y - 1) % 400 = 399) (h2 : (Y - 1) % 400 % 4 = 3) : ((Y - 1) % 400 % 100 != 99) = leapB Y := by
  rw [Bool.eq_iff_iff, lp_iff, bne_iff_ne]
  exact ⟨fun h => .inr ⟨h2, h⟩, fun h => h.elim (fun q => absurd q h1) (fun q => q.2)⟩
theorem long_3 {Y : Int} (h1 : ¬ (Y - 1) % 400 = 399) (h2 : ¬ (Y - 1) % 400 % 4 = 3) : ((Y - 1) % 400 % 4 == 3) = leapB Y := by
  rw [Bool.eq_iff_iff, lp_iff, beq_iff_eq]
  exact ⟨fun h => absurd h h2, fun h => h.elim (fun q => absurd q h1) (fun q => absurd q.1 h2)⟩
theorem i28_t {Y : Int} (h : leapB Y = true) : (29 : Int) = if leapB Y = true then 29 else 28 := by rw [if_pos h]
theorem i28_f {Y : Int} (h : leapB Y = false) : (28 : Int) = if leapB Y = true then 29 else 28 := by rw [h]; rfl
theorem i28_n {Y : Int} (h : ¬ leapB Y = true) : (28 : Int) = if leapB Y = true then 29 else 28 := by rw [if_neg h]
theorem late_1 {Y : Int} (h4 : Y % 4 = 0) (h : leapB Y = false) : (1 : Int) = if Y % 4 = 0 ∧ leapB Y = false then 1 else 0 := by rw [if_pos ⟨h4, h⟩]
theorem late_a {Y : Int} (h4 : ¬ Y % 4 = 0) : (0 : Int) = if Y % 4 = 0 ∧ leapB Y = false then 1 else 0 := by rw [if_neg fun h => h4 h.1]
theorem late_b {Y : Int} (h : leapB Y = true) : (0 : Int) = if Y % 4 = 0 ∧ leapB Y = false then 1 else 0 := by rw [if_neg fun q => by rw [h] at q; cases q.2]
theorem late_n {Y : Int} (h4 : Y % 4 = 0) (h : ¬ leapB Y = true) : (1 : Int) = if Y % 4 = 0 ∧ leapB Y = false then 1 else 0 := late_1 h4 (Bool.not_eq_true _ ▸ h)
theorem late_m {Y : Int} (h : ¬ leapB Y = false) : (0 : Int) = if Y % 4 = 0 ∧ leapB Y = false then 1 else 0 := by rw [if_neg fun q => h q.2]

end
set_option maxRecDepth 100000
theorem off_L4 : True := by
  w_top off
  trivial
section
/-- the law's year, ahead of near -/
structure NMark (Y : Int) : Prop where
  tt : True
section
variable {prog : Program} {w : World} {A : Around} {E : Value → Shared → Prop} {s : Shared} {h₀ : Heap} {L : Addr} {m : Str → Option Value} {news : List (Addr × Obj)} {env : Env}
def JoinedY (h₀ : Heap) (L : Addr) (m : Str → Option Value) (news : List (Addr × Obj)) (s : Shared) (f : Flow) (s' : Shared) : Prop :=
  f = .next ∧ ∃ Y t h' tk', -1100000 ≤ Y ∧ Y ≤ 1100000 ∧ s' = { s with heap := h', toks := tk' } ∧ Fr h₀ L h' (fun y => if y = Str.ofString "year" then some (.int Y t) else m y) ∧ News h₀ L h' news
theorem JoinedY.a {Y : Int} {t : Tok} {h' : Heap} {tk' : Nat} {news' : List (Addr × Obj)} (F : Fr h₀ L h' (fun y => if y = Str.ofString "year" then some (.int Y t) else m y)) (h1 : -1100000 ≤ Y) (h2 : Y ≤ 1100000) (N : News h₀ L h' news') (hs : ∀ p ∈ news, p ∈ news') :
    JoinedY h₀ L m news s .next { s with heap := h', toks := tk' } :=
  ⟨rfl, Y, t, h', tk', h1, h2, rfl, F, cb_drop N hs⟩
theorem JoinedY.b {Y : Int} {t : Tok} {h' : Heap} {tk' : Nat} {news' : List (Addr × Obj)} (F : Fr h₀ L h' m) (hm : m (Str.ofString "year") = some (.int Y t)) (h1 : -1100000 ≤ Y) (h2 : Y ≤ 1100000) (N : News h₀ L h' news') (hs : ∀ p ∈ news, p ∈ news') :
    JoinedY h₀ L m news s .next { s with heap := h', toks := tk' } := by
  have e : (fun y => if y = Str.ofString "year" then some (.int Y t) else m y) = m := by
    funext y
    by_cases c : y = Str.ofString "year"
    · subst c; rw [if_pos rfl]; exact hm.symm
    · rw [if_neg c]
  exact ⟨rfl, Y, t, h', tk', h1, h2, rfl, by rw [e]; exact F, cb_drop N hs⟩
theorem join_year {st : Stmt} {Q : Flow → Shared → Prop} (F : Fr h₀ L s.heap m) (N : News h₀ L s.heap news)
    (walk : wpAny (model prog w) A (exec st env) (JoinedY h₀ L m news s) E s)
    (go : ∀ Y t h' tk', NMark Y → -1100000 ≤ Y → Y ≤ 1100000 → Fr h₀ L h' (fun y => if y = Str.ofString "year" then some (.int Y t) else m y) → News h₀ L h' news → Q .next { s with heap := h', toks := tk' }) : wpAny (model prog w) A (exec st env) Q E s :=
  wpAny_mono walk (fun f s' j => by obtain ⟨rfl, Y, t, h', tk', h1, h2, rfl, F', N'⟩ := j; exact go Y t h' tk' ⟨trivial⟩ h1 h2 F' N') (fun _ _ e => e)
theorem join_near {Y : Int} {e : PySem.Expr} {Q : Value → Shared → Prop} (_y : NMark Y) (F : Fr h₀ L s.heap m) (N : News h₀ L s.heap news)
    (walk : wpAny (model prog w) A (eval e env) (JoinedV (fun v => v = .bool (decide (1801 ≤ Y ∧ Y ≤ 2099))) h₀ L m news s) E s)
    (go : ∀ h' tk', Fr h₀ L h' m → News h₀ L h' news → Q (.bool (decide (1801 ≤ Y ∧ Y ≤ 2099))) { s with heap := h', toks := tk' }) : wpAny (model prog w) A (eval e env) Q E s :=
  join_eval _ F N walk fun v h' tk' hv F' N' => by subst hv; exact go h' tk' F' N'
end
theorem lens_j {Y : Int} {ls : List Value} (i : IntsAre ls [31, (if leapB Y = true then 29 else 28), 31, 30, 31, 30, 31, 31, 30, 31, 30, 31]) : IntsAre ls (lensL (leapB Y)) := i

end
set_option maxRecDepth 100000
theorem off_M2 : True := by
  w_top off
  trivial
section
local macro_rules | `(tactic| walk_at "pyIter ref") => `(tactic| (refine Hold.out ?_))
local macro_rules | `(tactic| walk_at "subscriptTail BinOp Name Add List Slice ref ref") => `(tactic| (k_here; k_dflt (refine kba_turn (value' := PySem.Expr.Name (PySem.Str.ofString "_") ⟨0, 0, 0, 0⟩) (fun _ => rfl) ?_)))
local macro_rules | `(tactic| walk_at "subscriptTail Name Slice ref ref") => `(tactic| (k_here; k_dflt (refine' kmk_slice_ints ?F ?N ?l ?p ?q ?i ?m ?c ?_ ?s ?t ?z; (case F => k_asm); (case N => k_asm); (case l => kmk_list); (case p => kmk_part); (case q => kmk_part); (case i => l_ints); (case m => kmk_nums); (case c => kmk_len); (case s => with_unfolding_all rfl); (case t => kmk_pure); (case z => kmk_size)); intro D' ws' h' F' N' l1 hI' hC' hL'; (try simp only [Int.reduceNeg, Int.neg_neg, Int.reduceToNat] at hI' hC' hL'); (try k_lt l1); (try k_sweep)))
local macro_rules | `(tactic| walk_at "call builtin:divmod") => `(tactic| (k_here; k_dflt (refine' r_divmod ?F ?N ?_; (case F => k_asm); (case N => k_asm)); intro D' h' yM F' N' l1; (try k_lt l1)))
local macro_rules | `(tactic| walk_at "my_long") => `(tactic| (first | exact JoinedV.b (long_1 (by with_reducible assumption)) (by with_reducible assumption) (by with_reducible assumption) (SubL.mem (by k_subL)) | exact JoinedV.b (long_2 (by with_reducible assumption) (by with_reducible assumption)) (by with_reducible assumption) (by with_reducible assumption) (SubL.mem (by k_subL)) | exact JoinedV.b (long_3 (by with_reducible assumption) (by with_reducible assumption)) (by with_reducible assumption) (by with_reducible assumption) (SubL.mem (by k_subL))))
local macro_rules | `(tactic| walk_at "eval BoolOp Or cons") => `(tactic| (k_here; (fail_if_success (with_reducible show wpAny _ _ _ (JoinedV _ _ _ _ _ _) _ _)); (with_reducible rename YMark _ => yM9); k_dflt (refine' join_long yM9 ?F ?N ?walk ?_; (case F => k_asm); (case N => k_asm); (case walk => (refine BoolOp_or ?_; k_steps; all_goals (walk_at "my_long")))); intro h9 tk9 F9 N9; (try dsimp only); (try k_fold)))
local macro_rules | `(tactic| walk_at "compareOp Eq float float") => `(tactic| (k_here; k_dflt ((with_reducible refine' r_eq_same ?kx ?ka ?ke ?_); (case kx => with_reducible assumption); (case ka => with_reducible assumption); (case ke => omega))))
local macro_rules | `(tactic| walk_at "my_fin") => `(tactic| (refine Hold.mk ?_; (rename IsRange _ _ _ _ _ _ _ _ => hr); (with_unfolding_all refine' start hr ?F ?N ?sub ?hb ?hs ?hy1 ?hy2 ?hnr ?he1 ?he2 ?hep ?hBg ?hEl ?hLt ?hls ?hws ?hwn ?hW ?B ?X ?T ?hd ?hu ?hE ?fin); (case F => exact fr_lawF (by assumption) (by rfl) (by rfl) (by rfl) (by rfl) (by rfl) (by rfl) (by rfl) (by rfl) (by rfl) (by rfl) (by rfl)); (case N => assumption); (case sub => k_subL); (case hb => with_unfolding_all rfl); (case hs => with_unfolding_all rfl); (case hep => with_reducible assumption); (case hy1 => omega); (case hy2 => omega); (case hnr => (intro hq; exact of_decide_eq_true hq)); (case he1 => omega); (case he2 => omega); (case hBg => exact begin_law _); (case hEl => rfl); (case hLt => rfl); (case hls => exact lens_j (by l_ints)); (case hws => l_ints); (case hwn => rfl); (case hW => rfl); (case B => assumption); (case X => k_asm); (case T => k_asm); (case hd => decide +kernel); (case hu => decide +kernel); (case hE => passes_own); (intro h' tk' m' u1 u2 u3 u4 u5 u6 u7 W' F' N'; dsimp +unfoldPartialApp only [lawF] at F'; dsimp only [LED] at N'; (try dsimp only); k_steps)))
local macro_rules | `(tactic| walk_at "my_year") => `(tactic| (first | exact JoinedY.a (by with_reducible assumption) (by omega) (by omega) (by with_reducible assumption) (SubL.mem (by k_subL)) | exact JoinedY.b (by with_reducible assumption) (by rfl) (by omega) (by omega) (by with_reducible assumption) (SubL.mem (by k_subL))))
local macro_rules | `(tactic| walk_at "exec If Compare cons nil") => `(tactic| (k_here; k_dflt ((with_reducible refine' join_year ?F ?N ?walk ?_; (case F => k_asm); (case N => k_asm)); (case walk => (refine wpAny_If ?_; k_steps; all_goals (walk_at "my_year"))); intro Y9 t9 h9 tk9 nM9 yA9 yB9 F9 N9; (try dsimp only); (try k_fold))))
local macro_rules | `(tactic| walk_at "my_near") => `(tactic| (exact JoinedV.b (decide_eq_decide.mpr (by omega)) (by with_reducible assumption) (by with_reducible assumption) (SubL.mem (by k_subL))))
local macro_rules | `(tactic| walk_at "eval Compare Constant cons cons") => `(tactic| (k_here; (fail_if_success (with_reducible show wpAny _ _ _ (JoinedV _ _ _ _ _ _) _ _)); (with_reducible rename NMark _ => nM8); k_dflt ((with_reducible refine' join_near nM8 ?F ?N ?walk ?_; (case F => k_asm); (case N => k_asm)); (case walk => (k_steps; all_goals (walk_at "my_near"))); intro h9 tk9 F9 N9; (try dsimp only); (try k_fold))))
local macro_rules | `(tactic| walk_at "my_i28") => `(tactic| (first | exact JoinedV.i (i28_t (by with_reducible assumption)) (by with_reducible assumption) (by with_reducible assumption) (SubL.mem (by k_subL)) | exact JoinedV.i (i28_f (by with_reducible assumption)) (by with_reducible assumption) (by with_reducible assumption) (SubL.mem (by k_subL)) | exact JoinedV.i (i28_n (by with_reducible assumption)) (by with_reducible assumption) (by with_reducible assumption) (SubL.mem (by k_subL))))
local macro_rules | `(tactic| walk_at "eval IfExp Name Constant Constant") => `(tactic| (k_here; (fail_if_success (with_reducible show wpAny _ _ _ (JoinedV _ _ _ _ _ _) _ _)); (with_reducible rename YMark _ => yM8); k_dflt ((with_reducible refine' join_28 yM8 ?F ?N ?walk ?_; (case F => k_asm); (case N => k_asm)); (case walk => (k_steps; all_goals (walk_at "my_i28"))); intro t9 h9 tk9 F9 N9; (try dsimp only); (try k_fold))))
local macro_rules | `(tactic| walk_at "my_late") => `(tactic| (first | exact JoinedV.i (late_1 (by with_reducible assumption) (by with_reducible assumption)) (by with_reducible assumption) (by with_reducible assumption) (SubL.mem (by k_subL)) | exact JoinedV.i (late_a (by with_reducible assumption)) (by with_reducible assumption) (by with_reducible assumption) (SubL.mem (by k_subL)) | exact JoinedV.i (late_b (by with_reducible assumption)) (by with_reducible assumption) (by with_reducible assumption) (SubL.mem (by k_subL)) | exact JoinedV.i (late_n (by with_reducible assumption) (by with_reducible assumption)) (by with_reducible assumption) (by with_reducible assumption) (SubL.mem (by k_subL)) | exact JoinedV.i (late_m (by with_reducible assumption)) (by with_reducible assumption) (by with_reducible assumption) (SubL.mem (by k_subL))))
local macro_rules | `(tactic| walk_at "eval IfExp BoolOp Constant Constant") => `(tactic| (k_here; (fail_if_success (with_reducible show wpAny _ _ _ (JoinedV _ _ _ _ _ _) _ _)); (with_reducible rename YMark _ => yM8); k_dflt ((with_reducible refine' join_late yM8 ?F ?N ?walk ?_; (case F => k_asm); (case N => k_asm)); (case walk => (k_steps; all_goals (walk_at "my_late"))); intro t9 h9 tk9 F9 N9; (try dsimp only); (try k_fold))))
set_option maxHeartbeats 8000000 in
theorem t : PySem.Challenge.rw_ad5027_01.Holds := hd (by w_strict (k_go0; (all_goals try k_fold); k_steps; all_goals (walk_at "my_fin")))

end
end Mine
theorem PySem.Challenge.cw_ad5027_01_holds : PySem.Challenge.rw_ad5027_01.Holds :=
  Mine.t
